import PyProof.Rows.All
import Wide.All
import OpenK.AllK
import Wide.FinOn
import PySem.Challenge.RW_op0076_01
open PySem PySem.W PyProof.Rows
set_option Elab.async false
set_option maxRecDepth 100000
set_option maxHeartbeats 8000000
open_top Mine.hd for PySem.Challenge.rw_op0076_01

-- part Base
section
open PySem PySem.W PySem.Calls PyProof.Rows Mine.hd
set_option Elab.async false
set_option maxRecDepth 100000
namespace Mine

noncomputable abbrev P : Program := PySem.Challenge.rw_op0076_01.row.prog
abbrev Tp (mean : ExcName → Option Value) (mg mb : Str → Option Value) (h : Heap) : Prop :=
  Top Mine.hd.view_39 (looseW Mine.hd.view_39 [Str.ofString "_filemode_table"]) mean mg mb h

/-- every object of h stays, but for the address l -/
noncomputable def But (l : Addr) (h h' : Heap) : Prop := ∀ b o, b ≠ l → h.get? b = some o → h'.get? b = some o

theorem But.trans {l : Addr} {h h' h'' : Heap} (x : But l h h') (y : But l h' h'') : But l h h'' := fun b o n e => y b o n (x b o n e)

section
variable {w : World} {A : Around} {E : Value → Shared → Prop} {s : Shared} {base : Heap} {mean : ExcName → Option Value} {mg mb : Str → Option Value}
  {name qual : Str} {params : Arguments} {body : List Stmt} {scope : Scope} {dV kV doc pm cdv ct oc : Value} {an od : Option Addr} {osl : Array (Option Value)} {f : Addr} {args : List Value} {binds : List (Str × Value)}
  {Q : Value → Shared → Prop}

/-- a call that may change the one object l -/
theorem enter1 {l : Addr} {o : Obj} (X : (heap_39 w.params).In base) (T : Tp mean mg mb base) (st : base.StaysIn s.heap) (hl0 : base.get? l = none) (hl : s.heap.get? l = some o)
    (ho : (heap_39 w.params).lookup f = some ⟨oc, od, .func (fnOf name qual params body scope dV kV doc pm an cdv ct), osl⟩) (hcd : codeIn (heap_39 w.params) cdv qual = true) (hroom : A.depth < recursionLimit)
    (hbind : BindsTo s (fnOf name qual params body scope dV kV doc pm an cdv ct) ⟨args, []⟩ binds) (hloc : ∀ y ∈ binds, scope.names.lookup y.1 = some .local)
    (h : ∀ g L' h₁, (∀ b o, b ≠ l → s.heap.get? b = some o → g.get? b = some o) → Fr g L' h₁ (fun y => binds.reverse.lookup y) → News g L' h₁ [(l, o)] → (heap_39 w.params).In g → Tp mean mg mb g →
      wpAny (model P w) (A.deeper (envOf qual scope L' f cdv)) (execs body (envOf qual scope L' f cdv))
        (fun fl s' => Q (match fl with | .ret v => v | _ => .none) s') (fun _ _ => False)
        { s with heap := h₁, toks := s.toks + binds.length })
    (hco : scope.isCoroutine = false := by rfl) (hgen : scope.isGenerator = false := by rfl) (hk : scope.kind = .function := by rfl)
    (hcell : ∀ x ∈ scope.names, x.2 ≠ .cell := by decide) : wpAny (model P w) A (call (.ref f) args) Q E s := by
  refine wpAny_call ?_
  have X' : (heap_39 w.params).In s.heap := X.keeps st
  refine codeAny_call_def (fd := fnOf name qual params body scope dV kV doc pm an cdv ct) (body := body) (binds := binds) hroom (X' _ _ ho) rfl (T.nolimit.keeps st) (codeRec_of X' hcd) rfl hbind hcell hloc (fun h₁ hns hk₁ => ?_) hco hgen hk
  have st' : base.StaysIn (s.heap.hide l) := fun b o e => by
    have n : b ≠ l := fun q => by rw [q, hl0] at e; cases e
    rw [Heap.hide_ne _ n]; exact st b o e
  refine wpAny_mono (h (s.heap.hide l) s.heap.objs.size h₁ (fun b o n e => by rw [Heap.hide_ne _ n]; exact e) ⟨hns, fun b o e => hk₁ b o (Heap.of_hide e), Nat.le_of_eq (Heap.hide_size _ _)⟩ (fun p hp => ?_) (X.keeps st') (T.keeps st')) (fun _ _ x => x) (fun _ _ x => x.elim)
  rw [List.mem_singleton.mp hp]
  exact ⟨hk₁ _ _ hl, Nat.ne_of_lt (Heap.lt_size hl), Heap.hide_self _ _⟩

/-- a call that changes nothing that stood -/
theorem enter0 (X : (heap_39 w.params).In base) (T : Tp mean mg mb base) (st : base.StaysIn s.heap)
    (ho : (heap_39 w.params).lookup f = some ⟨oc, od, .func (fnOf name qual params body scope dV kV doc pm an cdv ct), osl⟩) (hcd : codeIn (heap_39 w.params) cdv qual = true) (hroom : A.depth < recursionLimit)
    (hbind : BindsTo s (fnOf name qual params body scope dV kV doc pm an cdv ct) ⟨args, []⟩ binds) (hloc : ∀ y ∈ binds, scope.names.lookup y.1 = some .local)
    (h : ∀ L' h₁, Fr s.heap L' h₁ (fun y => binds.reverse.lookup y) → News s.heap L' h₁ [] → (heap_39 w.params).In s.heap → Tp mean mg mb s.heap →
      wpAny (model P w) (A.deeper (envOf qual scope L' f cdv)) (execs body (envOf qual scope L' f cdv))
        (fun fl s' => Q (match fl with | .ret v => v | _ => .none) s') (fun _ _ => False)
        { s with heap := h₁, toks := s.toks + binds.length })
    (hco : scope.isCoroutine = false := by rfl) (hgen : scope.isGenerator = false := by rfl) (hk : scope.kind = .function := by rfl)
    (hcell : ∀ x ∈ scope.names, x.2 ≠ .cell := by decide) : wpAny (model P w) A (call (.ref f) args) Q E s := by
  refine wpAny_call ?_
  have X' : (heap_39 w.params).In s.heap := X.keeps st
  refine codeAny_call_def (fd := fnOf name qual params body scope dV kV doc pm an cdv ct) (body := body) (binds := binds) hroom (X' _ _ ho) rfl (T.nolimit.keeps st) (codeRec_of X' hcd) rfl hbind hcell hloc (fun h₁ hns hk₁ => ?_) hco hgen hk
  exact wpAny_mono (h s.heap.objs.size h₁ ⟨hns, hk₁, Nat.le_refl _⟩ News.nil X' (T.keeps st)) (fun _ _ x => x) (fun _ _ x => x.elim)
end

theorem fill : ∀ (w : World) (h : Heap), (heap_39 w.params).In h → PySem.Challenge.rw_op0076_01 = PySem.Challenge.rw_op0076_01 := by
  k_fill
  intros
  rfl
end Mine
end

-- part TupLt
section
open PySem PySem.W PySem.Calls PyProof.Rows Mine.hd
set_option Elab.async false
set_option maxRecDepth 100000
namespace Mine

structure Elt where
  a : Addr
  k : Int
  t : Str
  ik : Tok
  it : Tok

noncomputable def Elt.val (e : Elt) : Value := .ref e.a
noncomputable def Elt.obj (e : Elt) : Obj := { cls := .type "tuple", data := .seq #[.int e.k e.ik, .str e.t e.it] }
noncomputable def Elt.lt (x y : Elt) : Bool := decide (x.k < y.k ∨ (x.k = y.k ∧ x.t.cps.toList < y.t.cps.toList))

section
variable {w : World} {A : Around} {E : Value → Shared → Prop} {s : Shared}

theorem cmp_lt_of {M : Model} {a b : Value} {Q : Value → Shared → Prop} (h : wpAny M A (compareOp .Lt a b) Q E s) : wpAny M A (richCompare .Lt a b) Q E s := h

theorem lt_tree {x y : Elt} {R : Fin → Shared → Prop} (hx : s.heap.get? x.a = some x.obj) (hy : s.heap.get? y.a = some y.obj) (h : R (.done (.ret (.bool (x.lt y)))) s) :
    wpAny (model P w) A (Builtin.«tuple.__lt__» ⟨[.ref x.a, .ref y.a], []⟩) R E s := by
  show wpAny _ _ (isInstance (.ref y.a) (.type "tuple") >>= _) _ _ s
  refine wpAny_bind (wpAny_isInstance ⟨_, hy, rfl⟩ isSubtype_tuple_tuple ?_)
  simp only [Bool.not_true, Bool.false_eq_true, if_false]
  refine wpAny_bind (wpAny_tupleItemsOf hx rfl ?_)
  refine wpAny_bind (wpAny_tupleItemsOf hy rfl ?_)
  refine wpAny_bind ?_
  simp only [List.zip_cons_cons, List.zip_nil_left, List.forIn_cons, List.forIn_nil]
  refine wpAny_bind (wpAny_bind (wpAny_eqBool_int ?_))
  by_cases hk : x.k = y.k
  · have e1 : (x.k == y.k) = true := by rw [hk]; exact beq_self_eq_true _
    rw [e1]
    simp only [Bool.not_true, Bool.false_eq_true, if_false]
    refine wpAny_pure (wpAny_bind (wpAny_bind (wpAny_eqBool_str ?_)))
    by_cases ht : x.t = y.t
    · rw [decide_eq_true ht]
      simp only [Bool.not_true, Bool.false_eq_true, if_false]
      refine wpAny_pure (wpAny_pure ?_)
      have e2 : x.lt y = false := by
        unfold Elt.lt
        rw [hk, ht]
        simp [List.lt_irrefl]
      rw [e2] at h
      exact wpAny_pure h
    · rw [decide_eq_false ht]
      simp only [Bool.not_false, if_true]
      have e2 : x.lt y = decide (x.t.cps.toList < y.t.cps.toList) := by
        unfold Elt.lt
        rw [hk]
        simp
      rw [e2] at h
      refine wpAny_bind (wpAny_rule (wpAny_bind ?_))
      refine cmp_lt_of (lt_str ?_)
      exact wpAny_bind (wpAny_pure (wpAny_pure (wpAny_pure (wpAny_pure h))))
  · have e1 : (x.k == y.k) = false := by rw [beq_eq_false_iff_ne]; exact hk
    rw [e1]
    simp only [Bool.not_false, if_true]
    have e2 : x.lt y = decide (x.k < y.k) := by
      unfold Elt.lt
      simp [hk]
    rw [e2] at h
    refine wpAny_bind (wpAny_rule (wpAny_bind ?_))
    refine cmp_lt_of (lt_int ?_)
    exact wpAny_bind (wpAny_pure (wpAny_pure (wpAny_pure (wpAny_pure h))))

theorem lt_elt {x y : Elt} {Q : Value → Shared → Prop} (hu : A.units < cLine) (hx : s.heap.get? x.a = some x.obj) (hy : s.heap.get? y.a = some y.obj) (h : Q (.bool (x.lt y)) s) :
    wpAny (model P w) A (compareOp .Lt (.ref x.a) (.ref y.a)) Q E s :=
  cmp_ofLt (wpAny_richCompare_same_room (op := .Lt) ⟨_, hx, rfl⟩ ⟨_, hy, rfl⟩ F.slot_tuple_lt
      (wpAny_call_entry F.slot_tuple_lt ⟨_, hx, rfl⟩ F.entry_tuple_lt (lt_tree hx hy ⟨_, rfl, (fun e => nomatch e), h⟩) (F.args_tuple_lt_2 _ _)) hu)
end
end Mine
end

-- part Rules
section
open PySem PySem.W PySem.Calls PyProof.Rows Mine.hd
set_option Elab.async false
set_option maxRecDepth 100000
namespace Mine

section
variable {w : World} {A : Around} {E : Value → Shared → Prop} {s : Shared} {env : Env} {Q : Flow → Shared → Prop}

noncomputable def TurnP (I : Nat → Shared → Prop) (n : Nat) (Q : Flow → Shared → Prop) (f : Flow) (s : Shared) : Prop :=
  match f with
  | .next => ∃ m, m < n ∧ I m s
  | .cont => ∃ m, m < n ∧ I m s
  | .brk => Q .next s
  | .ret v => Q (.ret v) s

theorem while_ind {test : PySem.Expr} {body : List Stmt} {pos : Pos} (I : Nat → Shared → Prop)
    (turn : ∀ n s, I n s → wpAny (model P w) A (isTrue test env (eval test env)) (fun b s₂ => if b = true then wpAny (model P w) A (execs body env) (TurnP I n Q) (fun _ _ => False) s₂ else Q .next s₂) (fun _ _ => False) s)
    (n : Nat) (h : I n s) : wpAny (model P w) A (exec (.While test body [] pos) env) Q (fun _ _ => False) s := by
  refine whl_start 0 ?_
  have go : ∀ n s, I n s → WhlRest P w A (fun _ _ => False) env test body [] Q 0 s := by
    intro n
    induction n using Nat.strongRecOn with
    | ind n ih =>
      intro s hI
      show WhlRest P w A (fun _ _ => False) env test body [] Q (0 + 1) s
      refine whl_turn (k := 0) PassesOwn.never (wpAny_mono (turn n s hI) (fun b s₂ h₂ => ?_) fun _ _ e => e)
      cases b with
      | false =>
        refine WhlIf.no rfl (wpAny_execs_nil ?_)
        rw [if_neg Bool.false_ne_true] at h₂
        exact h₂
      | true =>
        refine WhlIf.yes rfl ?_
        rw [if_pos rfl] at h₂
        refine wpAny_mono h₂ (fun f s₃ h₃ => ?_) fun _ _ e => e
        cases f with
        | next => obtain ⟨m, hm, hI'⟩ := h₃; exact ih m hm _ hI'
        | cont => obtain ⟨m, hm, hI'⟩ := h₃; exact ih m hm _ hI'
        | brk => exact h₃
        | ret v => exact h₃
  exact go n s h
end

noncomputable def Pinned (m : Str → Option Value) : List (Str × Value) → Prop
  | [] => True
  | (a, v) :: r => m a = some v ∧ Pinned m r

theorem Pinned.get {m : Str → Option Value} {y : Str} {v : Value} : ∀ {ps : List (Str × Value)}, Pinned m ps → ps.lookup y = some v → m y = some v
  | (a, u) :: r, h, e => by
    rw [List.lookup_cons] at e
    by_cases q : (y == a) = true
    · rw [q] at e
      rw [beq_iff_eq.mp q, h.1]
      exact e
    · rw [Bool.not_eq_true] at q
      rw [q] at e
      exact Pinned.get h.2 e

theorem Fr.pins {g h : Heap} {L : Addr} {m : Str → Option Value} (F : Fr g L h m) {ps : List (Str × Value)} (e : Pinned m ps) : Fr g L h (fun y => (ps.lookup y).or (m y)) := by
  have q : (fun y => (ps.lookup y).or (m y)) = m := by
    funext y
    cases hy : ps.lookup y with
    | none => rfl
    | some v => rw [Option.some_or, e.get hy]
  rw [q]
  exact F
end Mine
end

-- part Rules2
section
open PySem PySem.W PySem.Calls PyProof.Rows Mine.hd
set_option Elab.async false
set_option maxRecDepth 100000
namespace Mine
section
variable {w : World} {A : Around} {E : Value → Shared → Prop} {s : Shared} {g : Heap} {L l : Addr} {m : Str → Option Value} {vs : List Value} {n : Nat} {k : Int} {t u : Tok} {v : Value}

theorem sub_get {value slice : PySem.Expr} {Q : Value → Shared → Prop} (hl : s.heap.get? l = some (listOf vs.toArray n)) (j : Nat) (hk : k = j) (hfit : j < 2 ^ 62) (hx : vs[j]? = some v) (h : Q v s)
    (hs : subscripted slice false (.ref l) (.int k u) = operate [.ref l, .int k u] (getItem (.ref l) (.int k u)) := by with_unfolding_all rfl) (hg : ∀ r, letTemporaryGo value (.ref l) r = pure () := by intro _; with_unfolding_all rfl) :
    wpAny (model P w) A (subscriptTail value slice (.ref l) (.int k u)) Q E s := by
  subst hk
  exact item_listL ⟨_, hl, rfl, n, rfl⟩ (Int.natCast_nonneg _) (by omega) (by simpa using hx) h hs hg

theorem set_at {rest : List (Addr × Obj)} {Q : Unit → Shared → Prop} (F : Fr g L s.heap m) (N : News g L s.heap ((l, listOf vs.toArray n) :: rest)) (hne : ∀ p ∈ rest, p.1 ≠ l)
    (j : Nat) (hk : k = j) (hfit : j < 2 ^ 62) (hj : j < vs.length)
    (h : ∀ h', Fr g L h' m → News g L h' ((l, listOf (vs.set j v).toArray n) :: rest) → Q () { s with heap := h' }) :
    wpAny (model P w) A (setItem (.ref l) (.int k t) v) Q E s := by
  subst hk
  have z := N (l, listOf vs.toArray n) (.head _)
  refine ki_setAt z.1 (Int.natCast_nonneg _) (by omega) (by simpa using hj) (h _ (F.change (Heap.SameBut.update ..) z.2.1 z.2.2) (ki_turn (pre := []) _ N (fun _ hp => nomatch hp) hne ?_ ?_))
  · show vs.toArray.setIfInBounds (Int.toNat (j : Int)) v = (vs.set j v).toArray
    apply Array.toList_inj.mp
    simp
  · simp
theorem get_len {Q : Value → Shared → Prop} (hl : s.heap.get? l = some (listOf vs.toArray n)) (hfit : vs.length < 2 ^ 62) (h : ∀ t tk, Q (.int vs.length t) { s with toks := tk }) :
    wpAny (model P w) A (call (.builtin "len") [.ref l]) Q E s :=
  len_list ⟨_, hl, rfl, n, rfl⟩ (by simp; omega) (by simpa using h _ _)
end
end Mine
end

section
open PySem PySem.W PySem.Calls PyProof.Rows Mine.hd
namespace Mine
local macro_rules | `(tactic| walk_at "go") => `(tactic| repeat' (first
  | (k_unfold; (try dsimp only))
  | ((fail_if_success (with_reducible first
      | show wpAny _ _ (exec (Stmt.While _ _ _ _) _) _ _ _
      | show wpAny _ _ (exec (Stmt.For _ _ _ _ _) _) _ _ _
      | show wpAny _ _ (call (Value.ref _) _ _) _ _ _
      | show wpAny _ _ (subscriptTail _ _ (Value.ref _) _) _ _ _
      | show wpAny _ _ (setItem (Value.ref _) _ _) _ _ _
      | show wpAny _ _ (compareOp _ (Value.ref _) _) _ _ _
      | show wpAny _ _ (call (Value.builtin "len") _ _) _ _ _)); (first | ((try dsimp only); walk1) | walk1))))


-- part SD
section
open PySem PySem.W PySem.Calls PyProof.Rows Mine.hd
set_option Elab.async false
set_option maxRecDepth 100000
set_option maxHeartbeats 8000000

theorem fill2 : ∀ (w : World) (h : Heap), (heap_39 w.params).In h → PySem.Challenge.rw_op0076_01 = PySem.Challenge.rw_op0076_01 := by
  k_fill
  intros
  rfl

noncomputable def downLoop (xs : List Elt) (start pos : Nat) (x : Elt) : List Elt × Nat :=
  if _h : start < pos then
    match xs[(pos - 1) / 2]? with
    | some p => if x.lt p then downLoop (xs.set pos p) start ((pos - 1) / 2) x else (xs, pos)
    | none => (xs, pos)
  else (xs, pos)
termination_by pos
decreasing_by omega


noncomputable def SDInv (g : Heap) (L' l : Addr) (s : Shared) (n0 : Nat) (xs : List Elt) (start pos : Nat) (t1 : Tok) (x : Elt) (n : Nat) (s' : Shared) : Prop :=
  ∃ h' tk' m' ys p, s' = {s with heap := h', toks := tk'} ∧ Fr g L' h' m' ∧ News g L' h' [(l, listOf (List.map Elt.val ys).toArray n0)] ∧ (∃ t, Pinned m' [(Str.ofString "heap", .ref l), (Str.ofString "startpos", .int start t1), (Str.ofString "pos", .int (p : Nat) t), (Str.ofString "newitem", .ref x.a)]) ∧ (∀ e ∈ ys, g.get? e.a = some e.obj) ∧ ys.length = xs.length ∧ p < xs.length ∧ n = p ∧ downLoop ys start p x = downLoop xs start pos x

theorem par_idx {i : Nat} (h : 0 < i) : ((i : Int) - 1).fdiv (2 ^ Int.toNat 1) = (((i - 1) / 2 : Nat) : Int) := by
  have e : (2 : Int) ^ Int.toNat 1 = 2 := rfl
  rw [e, Int.fdiv_eq_ediv_of_nonneg _ (by omega)]
  omega

theorem siftdown_spec {w : World} {A : Around} {E : Value → Shared → Prop} {s : Shared} {base : Heap} {mean : ExcName → Option Value} {mg mb : Str → Option Value}
  {Q : Value → Shared → Prop} {l : Addr} {xs : List Elt} {n : Nat} {start pos : Nat} {t1 t2 : Tok} {x : Elt}
  (X : (heap_39 w.params).In base) (T : Tp mean mg mb base) (st : base.StaysIn s.heap) (hl0 : base.get? l = none) (hl : s.heap.get? l = some (listOf (xs.map Elt.val).toArray n))
  (hA : A.depth + 10 < recursionLimit) (hU : A.units + 20 < cLine)
  (hx : xs[pos]? = some x) (hlen : xs.length < 2 ^ 20)
  (hxs : ∀ e ∈ xs, s.heap.get? e.a = some e.obj ∧ e.a ≠ l)
  (h : ∀ h' tk', But l s.heap h' → h'.get? l = some (listOf (((downLoop xs start pos x).1.set (downLoop xs start pos x).2 x).map Elt.val).toArray n) → Q .none {s with heap := h', toks := tk'}) :
   wpAny (model P w) A (call (.ref 49) [.ref l, .int start t1, .int pos t2]) Q E s := by
  have hpos : pos < xs.length := (List.getElem?_eq_some_iff.mp hx).1
  refine' enter1 (binds := [(Str.ofString "heap", .ref l), (Str.ofString "startpos", .int start t1), (Str.ofString "pos", .int pos t2)]) X T st hl0 hl ?k6 ?k7 ?k8 ?k9 ?kB ?_ ?c2 ?c3 ?c4 ?c5; (case k6 => k_is); (case k7 => k_is); (case k8 => omega); (case k9 => exact BindsTo.of_eq rfl); (case c5 => decide); (case kB => exact locs rfl); (case c2 => exact rfl); (case c3 => exact rfl); (case c4 => exact rfl)
  intro g L' h₁ hg F N Xg Tg
  have hgs : ∀ e ∈ xs, g.get? e.a = some e.obj := fun e he => hg _ _ (hxs e he).2 (hxs e he).1
  have hxg : g.get? x.a = some x.obj := hgs x (List.mem_of_getElem? hx)
  (try dsimp only)
  (try k_fold)
  walk_at "go"
  refine sub_get (News.get N (.head _)) pos rfl (by omega) (by rw [List.getElem?_map, hx]; rfl) ?_
  walk_at "go"
  rename_i F N
  refine while_ind (SDInv g L' l s n xs start pos t1 x) ?turn pos ⟨_, _, _, xs, pos, rfl, F, N, ⟨_, rfl, rfl, rfl, rfl, trivial⟩, hgs, rfl, hpos, rfl, rfl⟩
  case turn =>
    rintro i s' ⟨h', tk', m', ys, p, rfl, F, N, ⟨t, hm⟩, hys, hyl, hp, rfl, hd⟩
    replace F := Fr.pins F hm
    clear hm
    (try k_fold)
    walk_at "go"
    · have h0 : start < i := by omega
      have hq : (i - 1) / 2 < ys.length := by omega
      refine sub_get (News.get (by assumption) (.head _)) ((i - 1) / 2) (par_idx (by omega)) (by omega) (by rw [List.getElem?_map, List.getElem?_eq_getElem hq]; rfl) ?_
      walk_at "go"
      have hyg : g.get? ys[(i - 1) / 2].a = some ys[(i - 1) / 2].obj := hys _ (List.getElem_mem hq)
      rename_i F N
      refine lt_elt (x := x) (y := ys[(i - 1) / 2]) (by simp only [Around.deeper_units]; omega) (F.keep _ _ hxg) (F.keep _ _ hyg) ?_
      walk_at "go"
      · rename_i hlt
        refine set_at F N (fun _ hp => nomatch hp) i rfl (by omega) (by simpa using by omega) ?_
        intro h2 F2 N2
        walk_at "go"
        rename_i F3 N3
        dsimp only [TurnP]
        refine ⟨(i - 1) / 2, by omega, _, _, _, ys.set i ys[(i - 1) / 2], (i - 1) / 2, rfl, F3, ?_, ⟨_, rfl, rfl, congrArg (fun k => some (Value.int k _)) (par_idx (by omega)), rfl, trivial⟩, ?_, by rw [List.length_set, hyl], by omega, rfl, ?_⟩
        · rw [List.map_set]; exact N3
        · intro e he
          rcases List.mem_or_eq_of_mem_set he with he | he
          · exact hys e he
          · rw [he]; exact hyg
        · rw [← hd]
          conv => rhs; unfold downLoop
          rw [dif_pos h0, List.getElem?_eq_getElem hq]
          dsimp only
          rw [if_pos hlt]
      · rename_i hlt
        dsimp only [TurnP]
        walk_at "go"
        refine set_at F N (fun _ hp => nomatch hp) i rfl (by omega) (by simpa using by omega) ?_
        intro h2 F2 N2
        walk_at "go"
        have e : downLoop ys start i x = (ys, i) := by
          unfold downLoop
          rw [dif_pos h0, List.getElem?_eq_getElem hq]
          dsimp only
          rw [if_neg (by rw [hlt]; exact Bool.false_ne_true)]
        rw [e] at hd
        rw [← hd] at h
        exact h _ _ (fun b o n e => F2.keep _ _ (hg b o n e)) (by have := News.get N2 (.head _); rw [this]; congr; simp [Elt.val])
    · refine set_at F N (fun _ hp => nomatch hp) i rfl (by omega) (by simpa using by omega) ?_
      intro h2 F2 N2
      walk_at "go"
      have e : downLoop ys start i x = (ys, i) := by
        unfold downLoop
        rw [dif_neg (by omega)]
      rw [e] at hd
      rw [← hd] at h
      exact h _ _ (fun b o n e => F2.keep _ _ (hg b o n e)) (by have := News.get N2 (.head _); rw [this]; congr; simp [Elt.val])
end

-- part SU
section
open PySem PySem.W PySem.Calls PyProof.Rows Mine.hd
set_option Elab.async false
set_option maxRecDepth 100000
set_option maxHeartbeats 8000000

theorem fill3 : ∀ (w : World) (h : Heap), (heap_39 w.params).In h → PySem.Challenge.rw_op0076_01 = PySem.Challenge.rw_op0076_01 := by
  k_fill
  intros
  rfl

noncomputable def upLoop (xs : List Elt) (pos : Nat) : List Elt × Nat :=
  match _h : xs[2 * pos + 1]? with
  | none => (xs, pos)
  | some c =>
    match xs[2 * pos + 1 + 1]? with
    | none => upLoop (xs.set pos c) (2 * pos + 1)
    | some r => if c.lt r then upLoop (xs.set pos c) (2 * pos + 1) else upLoop (xs.set pos r) (2 * pos + 1 + 1)
termination_by xs.length - pos
decreasing_by
  all_goals
    have := (List.getElem?_eq_some_iff.mp _h).1
    rw [List.length_set]
    omega

noncomputable def sdL (xs : List Elt) (start pos : Nat) (x : Elt) : List Elt := (downLoop xs start pos x).1.set (downLoop xs start pos x).2 x
noncomputable def suL (xs : List Elt) (pos : Nat) (x : Elt) : List Elt := sdL ((upLoop xs pos).1.set (upLoop xs pos).2 x) pos (upLoop xs pos).2 x

theorem Fr.but {g h h' : Heap} {L l : Addr} {m : Str → Option Value} (F : Fr g L h m) (hb : But l h h') (n : l ≠ L) (e : g.get? l = none) : Fr g L h' m := by
  obtain ⟨oL, es, ep, hL, r⟩ := F.ns
  exact ⟨⟨oL, es, ep, hb _ _ (Ne.symm n) hL, r⟩, fun b o q => hb _ _ (fun z => by rw [z, e] at q; cases q) (F.keep b o q), F.above⟩
theorem News.but {g h h' : Heap} {L l : Addr} {o o' : Obj} {rest : List (Addr × Obj)} (N : News g L h ((l, o) :: rest)) (hb : But l h h') (ne : ∀ p ∈ rest, p.1 ≠ l) (hl : h'.get? l = some o') : News g L h' ((l, o') :: rest) := by
  intro p hp
  rcases List.mem_cons.mp hp with rfl | q
  · exact ⟨hl, (N _ (.head _)).2⟩
  · exact ⟨hb _ _ (ne p q) (N p (.tail _ q)).1, (N p (.tail _ q)).2⟩

noncomputable def SUInv (g : Heap) (L' l : Addr) (s : Shared) (n0 : Nat) (xs : List Elt) (pos : Nat) (x : Elt) (n : Nat) (s' : Shared) : Prop :=
  ∃ h' tk' m' ys p, s' = {s with heap := h', toks := tk'} ∧ Fr g L' h' m' ∧ News g L' h' [(l, listOf (List.map Elt.val ys).toArray n0)] ∧
    (∃ t1 t2 t3 t4, Pinned m' [(Str.ofString "heap", .ref l), (Str.ofString "endpos", .int xs.length t1), (Str.ofString "startpos", .int pos t2), (Str.ofString "pos", .int (p : Nat) t3), (Str.ofString "childpos", .int (2 * p + 1 : Nat) t4), (Str.ofString "newitem", .ref x.a)]) ∧
    (∀ e ∈ ys, g.get? e.a = some e.obj) ∧ ys.length = xs.length ∧ p < xs.length ∧ n = xs.length - p ∧ upLoop ys p = upLoop xs pos

theorem siftup_spec {w : World} {A : Around} {E : Value → Shared → Prop} {s : Shared} {base : Heap} {mean : ExcName → Option Value} {mg mb : Str → Option Value}
  {Q : Value → Shared → Prop} {l : Addr} {xs : List Elt} {n : Nat} {pos : Nat} {t2 : Tok} {x : Elt}
  (X : (heap_39 w.params).In base) (T : Tp mean mg mb base) (st : base.StaysIn s.heap) (hl0 : base.get? l = none) (hl : s.heap.get? l = some (listOf (xs.map Elt.val).toArray n))
  (hA : A.depth + 20 < recursionLimit) (hU : A.units + 40 < cLine)
  (hx : xs[pos]? = some x) (hlen : xs.length < 2 ^ 20)
  (hxs : ∀ e ∈ xs, s.heap.get? e.a = some e.obj ∧ e.a ≠ l)
  (h : ∀ h' tk', But l s.heap h' → h'.get? l = some (listOf ((suL xs pos x).map Elt.val).toArray n) → Q .none {s with heap := h', toks := tk'}) :
   wpAny (model P w) A (call (.ref 56) [.ref l, .int pos t2]) Q E s := by
  have hpos : pos < xs.length := (List.getElem?_eq_some_iff.mp hx).1
  refine' enter1 (binds := [(Str.ofString "heap", .ref l), (Str.ofString "pos", .int pos t2)]) X T st hl0 hl ?k6 ?k7 ?k8 ?k9 ?kB ?_ ?c2 ?c3 ?c4 ?c5; (case k6 => k_is); (case k7 => k_is); (case k8 => omega); (case k9 => exact BindsTo.of_eq rfl); (case c5 => decide); (case kB => exact locs rfl); (case c2 => exact rfl); (case c3 => exact rfl); (case c4 => exact rfl)
  intro g L' h₁ hg F N Xg Tg
  have hgs : ∀ e ∈ xs, g.get? e.a = some e.obj := fun e he => hg _ _ (hxs e he).2 (hxs e he).1
  have hxg : g.get? x.a = some x.obj := hgs x (List.mem_of_getElem? hx)
  (try dsimp only)
  (try k_fold)
  walk_at "go"
  refine get_len (News.get N (.head _)) (by simpa using by omega) ?_
  intro t3 tk3
  rw [List.length_map]
  walk_at "go"
  rename_i F N
  refine sub_get (News.get N (.head _)) pos rfl (by omega) (by rw [List.getElem?_map, hx]; rfl) ?_
  walk_at "go"
  rename_i F N
  refine while_ind (SUInv g L' l s n xs pos x) ?turn (xs.length - pos) ⟨_, _, _, xs, pos, rfl, F, N, ⟨_, _, _, _, rfl, rfl, rfl, rfl, rfl, rfl, trivial⟩, hgs, rfl, hpos, rfl, rfl⟩
  case turn =>
    rintro i s' ⟨h', tk', m', ys, p, rfl, F, N, ⟨t1, t2, t3, t4, hm⟩, hys, hyl, hp, hi, hd⟩
    replace F := Fr.pins F hm
    clear hm
    (try k_fold)
    walk_at "go"
    · rename_i hc F N hr
      have h1 : 2 * p + 1 < ys.length := by omega
      have h2 : 2 * p + 1 + 1 < ys.length := by omega
      have hg1 := hys _ (List.getElem_mem h1)
      have hg2 := hys _ (List.getElem_mem h2)
      refine sub_get (News.get N (.head _)) (2 * p + 1) rfl (by omega) (by rw [List.getElem?_map, List.getElem?_eq_getElem h1]; rfl) ?_
      walk_at "go"
      refine sub_get (News.get N (.head _)) (2 * p + 1 + 1) (by omega) (by omega) (by rw [List.getElem?_map, List.getElem?_eq_getElem h2]; rfl) ?_
      refine lt_elt (x := ys[2 * p + 1]) (y := ys[2 * p + 1 + 1]) (by simp only [Around.deeper_units]; omega) (F.keep _ _ hg1) (F.keep _ _ hg2) ?_
      walk_at "go"
      · rename_i hlt
        refine sub_get (News.get N (.head _)) (2 * p + 1) rfl (by omega) (by rw [List.getElem?_map, List.getElem?_eq_getElem h1]; rfl) ?_
        walk_at "go"
        refine set_at F N (fun _ hp => nomatch hp) p rfl (by omega) (by simpa using by omega) ?_
        intro h4 F2 N2
        walk_at "go"
        rename_i F3 N3
        dsimp only [TurnP]
        refine ⟨xs.length - (2 * p + 1), by omega, _, _, _, ys.set p ys[2 * p + 1], 2 * p + 1, rfl, F3, ?_, ⟨_, _, _, _, rfl, rfl, rfl, rfl, rfl, rfl, trivial⟩, ?_, by rw [List.length_set, hyl], by omega, rfl, ?_⟩
        · rw [List.map_set]; exact N3
        · intro e he
          rcases List.mem_or_eq_of_mem_set he with he | he
          · exact hys e he
          · rw [he]; exact hg1
        · rw [← hd]
          conv => rhs; unfold upLoop
          rw [List.getElem?_eq_getElem h1]
          dsimp only
          rw [List.getElem?_eq_getElem h2]
          dsimp only
          rw [if_pos hlt]
      · rename_i hlt _ F N
        refine sub_get (News.get N (.head _)) (2 * p + 1 + 1) (by omega) (by omega) (by rw [List.getElem?_map, List.getElem?_eq_getElem h2]; rfl) ?_
        walk_at "go"
        refine set_at F N (fun _ hp => nomatch hp) p rfl (by omega) (by simpa using by omega) ?_
        intro h4 F2 N2
        walk_at "go"
        rename_i F3 N3
        dsimp only [TurnP]
        refine ⟨xs.length - (2 * p + 1 + 1), by omega, _, _, _, ys.set p ys[2 * p + 1 + 1], 2 * p + 1 + 1, rfl, F3, ?_, ⟨_, _, _, _, rfl, rfl, rfl, congrArg (fun k => some (Value.int k _)) (by omega), congrArg (fun k => some (Value.int k _)) (by omega), rfl, trivial⟩, ?_, by rw [List.length_set, hyl], by omega, rfl, ?_⟩
        · rw [List.map_set]; exact N3
        · intro e he
          rcases List.mem_or_eq_of_mem_set he with he | he
          · exact hys e he
          · rw [he]; exact hg2
        · rw [← hd]
          conv => rhs; unfold upLoop
          rw [List.getElem?_eq_getElem h1]
          dsimp only
          rw [List.getElem?_eq_getElem h2]
          dsimp only
          rw [if_neg (by rw [hlt]; exact Bool.false_ne_true)]
    · rename_i hc F N hr
      have h1 : 2 * p + 1 < ys.length := by omega
      have hg1 := hys _ (List.getElem_mem h1)
      refine sub_get (News.get N (.head _)) (2 * p + 1) rfl (by omega) (by rw [List.getElem?_map, List.getElem?_eq_getElem h1]; rfl) ?_
      walk_at "go"
      refine set_at F N (fun _ hp => nomatch hp) p rfl (by omega) (by simpa using by omega) ?_
      intro h2 F2 N2
      walk_at "go"
      rename_i F3 N3
      dsimp only [TurnP]
      refine ⟨xs.length - (2 * p + 1), by omega, _, _, _, ys.set p ys[2 * p + 1], 2 * p + 1, rfl, F3, ?_, ⟨_, _, _, _, rfl, rfl, rfl, rfl, rfl, rfl, trivial⟩, ?_, by rw [List.length_set, hyl], by omega, rfl, ?_⟩
      · rw [List.map_set]; exact N3
      · intro e he
        rcases List.mem_or_eq_of_mem_set he with he | he
        · exact hys e he
        · rw [he]; exact hg1
      · rw [← hd]
        conv => rhs; unfold upLoop
        rw [List.getElem?_eq_getElem h1]
        dsimp only
        rw [List.getElem?_eq_none (by omega)]
    · rename_i hc
      refine set_at F N (fun _ hp => nomatch hp) p rfl (by omega) (by simpa using by omega) ?_
      intro h2 F2 N2
      walk_at "go"
      have e : upLoop ys p = (ys, p) := by
        unfold upLoop
        rw [List.getElem?_eq_none (by omega)]
      rw [e] at hd
      have hsu : suL xs pos x = sdL (ys.set p x) pos p x := by unfold suL; rw [← hd]
      have hps : p < ys.length := by omega
      refine siftdown_spec (xs := ys.set p x) (x := x) Xg Tg F2.keep (News.fresh N2 (.head _)) (by have := News.get N2 (.head _); rw [List.map_set]; exact this) (by simp only [depth_deeper]; omega) (by simp only [Around.deeper_units]; omega)
        (by rw [List.getElem?_set_self hps]) (by rw [List.length_set]; omega) ?_ ?_
      · intro e he
        have hge : g.get? e.a = some e.obj := by
          rcases List.mem_or_eq_of_mem_set he with he | he
          · exact hys e he
          · rw [he]; exact hxg
        exact ⟨F2.keep _ _ hge, fun z => by rw [z, News.fresh N2 (.head _)] at hge; cases hge⟩
      · intro h5 tk5 hb hl5
        walk_at "go"
        refine h _ _ (fun b o n e => hb b o n (F2.keep _ _ (hg b o n e))) ?_
        rw [hsu]
        exact hl5
end

end Mine
end

-- part Rules3
section
open PySem PySem.W PySem.Calls PyProof.Rows Mine.hd
set_option Elab.async false
set_option maxRecDepth 100000
namespace Mine
section
variable {w : World} {A : Around} {E : Value → Shared → Prop} {s : Shared} {g : Heap} {L l : Addr} {m : Str → Option Value} {vs : List Value} {n : Nat} {k : Int} {t u : Tok} {v : Value} {news news' : List (Addr × Obj)}

theorem pop_last {y : Value} {Q : Value → Shared → Prop} (F : Fr g L s.heap m) (N : News g L s.heap news) (U : Upd l (listOf (vs ++ [y]).toArray n) (listOf vs.toArray (n + 1)) news news') (hz : vs.length < 2 ^ 20)
    (h : ∀ h', Fr g L h' m → News g L h' news' → Q y { s with heap := h' }) : wpAny (model P w) A (call (.builtin "list.pop") [.ref l]) Q E s :=
  kl_pop (p := vs) (y := y) F N (by simpa using kpa_last y vs) U (by rw [sizeLine_eq]; simp; omega) h

theorem get_truth {Q : Bool → Shared → Prop} (hl : s.heap.get? l = some (listOf vs.toArray n)) (hz : vs.length < 2 ^ 62) (h : ∀ tk, Q (!vs.isEmpty) { s with toks := tk }) :
    wpAny (model P w) A (truthy (.ref l)) Q E s :=
  wpAny_truthy_list ⟨_, hl, rfl, n, rfl⟩ (by simp; omega) (by simpa using h _)

theorem app_last {x : Value} {Q : Value → Shared → Prop} (F : Fr g L s.heap m) (N : News g L s.heap news) (U : Upd l (listOf vs.toArray n) (listOf (vs ++ [x]).toArray (n + 1)) news news') (hz : vs.length < 2 ^ 20)
    (h : ∀ h', Fr g L h' m → News g L h' news' → Q .none { s with heap := h' }) : wpAny (model P w) A (call (.builtin "list.append") [.ref l, x]) Q E s :=
  append_K (its := vs.toArray) F N (by simpa using U) h (by rw [sizeLine_eq]; simp; omega)

theorem set_atU {Q : Unit → Shared → Prop} (F : Fr g L s.heap m) (N : News g L s.heap news)
    (j : Nat) (U : Upd l (listOf vs.toArray n) (listOf (vs.set j v).toArray n) news news') (hk : k = j) (hfit : j < 2 ^ 62) (hj : j < vs.length)
    (h : ∀ h', Fr g L h' m → News g L h' news' → Q () { s with heap := h' }) :
    wpAny (model P w) A (setItem (.ref l) (.int k t) v) Q E s := by
  subst hk
  obtain ⟨pre, post, rfl, rfl, a, b⟩ := U.split
  have z := N (l, listOf vs.toArray n) (List.mem_append.mpr (.inr (.head _)))
  refine ki_setAt z.1 (Int.natCast_nonneg _) (by omega) (by simpa using hj) (h _ (F.change (Heap.SameBut.update ..) z.2.1 z.2.2) (ki_turn _ N a b ?_ ?_))
  · show vs.toArray.setIfInBounds (Int.toNat (j : Int)) v = (vs.set j v).toArray
    apply Array.toList_inj.mp
    simp
  · simp
end

section
variable {w : World} {A : Around} {s : Shared} {g : Heap} {L : Addr} {m₀ : Str → Option Value} {news₀ : List (Addr × Obj)} {env : Env} {Q : Flow → Shared → Prop}

noncomputable def ForP (g : Heap) (L I : Addr) (o : Obj) (J : (Str → Option Value) → List (Addr × Obj) → Prop) (s : Shared) (Q : Flow → Shared → Prop) (f : Flow) (s₃ : Shared) : Prop :=
  match f with
  | .next => ∃ h tk m news, s₃ = { s with heap := h, toks := tk } ∧ Fr g L h m ∧ News g L h ((I, o) :: news) ∧ (∀ p ∈ news, p.1 ≠ I) ∧ J m news
  | .cont => ∃ h tk m news, s₃ = { s with heap := h, toks := tk } ∧ Fr g L h m ∧ News g L h ((I, o) :: news) ∧ (∀ p ∈ news, p.1 ≠ I) ∧ J m news
  | .brk => Q .next s₃
  | .ret v => Q (.ret v) s₃

theorem forLoop_go {R : Result → Shared → Prop} {target it body orelse env} (I : Nat → Shared → Prop)
    (turn : ∀ n s, I n s → wpAny (model P w) A (pyNext it) (fun r s₁ => match r with
      | none => wpAny (model P w) A (execs orelse env) (fun f s₃ => R (.ok f) s₃) (notedBy (model P w) A env fun e s' => R (.error e) s') s₁
      | some v => wpAny (model P w) A (letOwnedTupleGo target it v) (fun _ s₁ => wpAny (model P w) A (assign target env v) (fun _ s₂ => wpAny (model P w) A (execs body env) (fun f s₃ => match f with
          | .next | .cont => ∃ m, m < n ∧ I m s₃
          | .brk => R (.ok .next) s₃
          | .ret v => R (.ok (.ret v)) s₃) (notedBy (model P w) A env fun e s' => R (.error e) s') s₂) (notedBy (model P w) A env fun e s' => R (.error e) s') s₁) (notedBy (model P w) A env fun e s' => R (.error e) s') s₁) (notedBy (model P w) A env fun e s' => R (.error e) s') s)
    (n : Nat) (h : I n s) : codeAny (model P w) A (.forLoop target it body orelse env) R s := by
  refine codeAny_loop' rfl I (fun n s hI => ?_) n h
  show wpAny _ _ ((forTurn target it body orelse env).onRaise (fun x => do noteFrame x env; theTreesLotGoes x)) _ _ s
  refine wpAny_noted ?_
  simp only [forTurn]
  refine wpAny_bind (wpAny_standAt (wpAny_bind (wpAny_onRaise (wpAny_mono (turn n s hI) (fun r s₁ h₁ => ?_) fun _ _ h' => wpAny_standAt h'))))
  cases r with
  | none => exact wpAny_pure (.inr ⟨rfl, codeAny_block h₁⟩)
  | some v =>
    refine wpAny_bind (wpAny_mono h₁ (fun _ s₁ h₁ => ?_) fun _ _ h' => h')
    refine wpAny_bind (wpAny_mono h₁ (fun _ s₂ h₂ => wpAny_bind (wpAny_mono h₂ (fun f s₃ h₃ => ?_) fun _ _ h' => h')) fun _ _ h' => h')
    cases f with
    | next => exact wpAny_pure (.inl ⟨rfl, h₃⟩)
    | cont => exact wpAny_pure (.inl ⟨rfl, h₃⟩)
    | brk => exact wpAny_pure h₃
    | ret v => exact wpAny_pure h₃

theorem for_ind {target : PySem.Expr} {body orelse : List Stmt} {I : Addr} {fp : List Addr} {cnt : Nat} {Pv : Nat → Value → Prop} {St : Nat → Heap → Prop} (W : Walks P w A I fp [I] cnt Pv St)
    (J : Nat → (Str → Option Value) → List (Addr × Obj) → Prop)
    (hI : I ∈ fp)
    (fpk : ∀ b ∈ fp, b = I ∨ (∃ o, g.get? b = some o) ∨ (∃ o, ∀ i m news, J i m news → (b, o) ∈ news))
    (hsome : ∀ i h, St i h → ∃ o, h.get? I = some o)
    (F : Fr g L s.heap m₀) (N : News g L s.heap news₀) (hI0 : g.get? I = none) (hIL : I ≠ L) (hst : St 0 s.heap) (h0 : J 0 m₀ news₀) (hoff : ∀ p ∈ news₀, p.1 ≠ I)
    (turn : ∀ i v m news o h tk, i < cnt → Pv i v → J i m news → (∀ p ∈ news, p.1 ≠ I) → Fr g L h m → News g L h ((I, o) :: news) →
      wpAny (model P w) A (assign target env v) (fun _ s₂ => wpAny (model P w) A (execs body env) (ForP g L I o (J (i + 1)) s Q) (fun _ _ => False) s₂) (fun _ _ => False) { s with heap := h, toks := tk })
    (done : ∀ m news h tk, J cnt m news → Fr g L h m → News g L h news → wpAny (model P w) A (execs orelse env) Q (fun _ _ => False) { s with heap := h, toks := tk })
    (ht : ∀ (i : Nat) (v : Value) (s' : Shared) (R : Unit → Shared → Prop) (E : Value → Shared → Prop), St i s'.heap → R () s' → wpAny (model P w) A (letOwnedTupleGo target (.ref I) v) R E s') :
    codeAny (model P w) A (.forLoop target (.ref I) body orelse env) (fun r s' => match r with | .ok f => Q f s' | .error e => cameBackBy (model P w) A env (fun _ _ => False) e s') s := by
  have never : ∀ e s', False → notedBy (model P w) A env (fun e s' => cameBackBy (model P w) A env (fun _ _ => False) e s') e s' := fun _ _ x => x.elim
  refine forLoop_go (fun k s' => ∃ i h tk m news, s' = { s with heap := h, toks := tk } ∧ Fr g L h m ∧ News g L h news ∧ (∀ p ∈ news, p.1 ≠ I) ∧ St i h ∧ J i m news ∧ i ≤ cnt ∧ k = cnt + 1 - i)
    ?_ (cnt + 1) ⟨0, s.heap, s.toks, m₀, news₀, rfl, F, N, hoff, hst, h0, Nat.zero_le _, rfl⟩
  rintro k s' ⟨i, h, tk, m, news, rfl, F, N, hoff, hst, hJ, hi, rfl⟩
  have moved : ∀ h' : Heap, (∀ b o, b ∉ [I] → h.get? b = some o → h'.get? b = some o) → Fr g L h' m ∧ News g L h' news := by
    intro h' hk
    obtain ⟨oL, es, ep, hL, r⟩ := F.ns
    refine ⟨⟨⟨oL, es, ep, hk _ _ (by simpa using Ne.symm hIL) hL, r⟩, fun b o e => hk _ _ ?_ (F.keep b o e), F.above⟩, fun p hp => ⟨hk _ _ (by simpa using hoff p hp) (N p hp).1, (N p hp).2⟩⟩
    intro q
    rw [List.mem_singleton.mp q, hI0] at e
    cases e
  by_cases hlt : i < cnt
  · refine W.item i _ _ _ hlt hst fun v h₁ tk₁ hP hst₁ hk₁ => ?_
    obtain ⟨F₁, N₁⟩ := moved h₁ hk₁
    obtain ⟨o, ho⟩ := hsome _ _ hst₁
    have N₂ : News g L h₁ ((I, o) :: news) := fun p hp => by
      rcases List.mem_cons.mp hp with rfl | q
      · exact ⟨ho, hIL, hI0⟩
      · exact N₁ p q
    refine ht (i + 1) v _ _ _ hst₁ ?_
    refine wpAny_mono (turn i v m news o h₁ tk₁ hlt hP hJ hoff F₁ N₂) (fun _ s₂ h₂ => wpAny_mono h₂ (fun f s₃ h₃ => ?_) never) never
    have fin : (∃ h tk m news, s₃ = { s with heap := h, toks := tk } ∧ Fr g L h m ∧ News g L h ((I, o) :: news) ∧ (∀ p ∈ news, p.1 ≠ I) ∧ J (i + 1) m news) →
        ∃ k, k < cnt + 1 - i ∧ ∃ i h tk m news, s₃ = { s with heap := h, toks := tk } ∧ Fr g L h m ∧ News g L h news ∧ (∀ p ∈ news, p.1 ≠ I) ∧ St i h ∧ J i m news ∧ i ≤ cnt ∧ k = cnt + 1 - i := by
      rintro ⟨h₄, tk₄, m₄, news₄, rfl, F₄, N₄, hoff₄, hJ₄⟩
      refine ⟨cnt + 1 - (i + 1), by omega, i + 1, h₄, tk₄, m₄, news₄, rfl, F₄, fun p hp => N₄ p (.tail _ hp), hoff₄, ?_, hJ₄, hlt, rfl⟩
      refine W.frame _ _ _ hst₁ fun b hb o' e => ?_
      rcases fpk b hb with rfl | ⟨ob, hob⟩ | ⟨ob, hob⟩
      · rw [ho] at e; cases e; exact (N₄ _ (.head _)).1
      · have q := F₁.keep _ _ hob
        rw [q] at e; cases e
        exact F₄.keep _ _ hob
      · have q := (N₁ _ (hob i m news hJ)).1
        rw [q] at e; cases e
        exact (N₄ _ (.tail _ (hob (i + 1) m₄ news₄ hJ₄))).1
    cases f with
    | next => exact fin h₃
    | cont => exact fin h₃
    | brk => exact h₃
    | ret v => exact h₃
  · have hin : i = cnt := by omega
    refine W.done _ _ _ (hin ▸ hst) fun h₁ tk₁ hk₁ => ?_
    obtain ⟨F₁, N₁⟩ := moved h₁ hk₁
    exact wpAny_mono (done m news h₁ tk₁ (hin ▸ hJ) F₁ N₁) (fun _ _ x => x) never
end
end Mine
end

-- part Rules4
section
open PySem PySem.W PySem.Calls PyProof.Rows Mine.hd
set_option Elab.async false
set_option maxRecDepth 100000
namespace Mine
section
variable {w : World} {A : Around} {s : Shared} {g : Heap} {L : Addr} {m₀ : Str → Option Value} {news₀ : List (Addr × Obj)} {env : Env} {Q : Flow → Shared → Prop}

theorem fresh_of {h : Heap} {m : Str → Option Value} (F : Fr g L h m) : g.get? h.objs.size = none ∧ h.objs.size ≠ L := by
  refine ⟨?_, ?_⟩
  · cases e : g.get? h.objs.size with
    | none => rfl
    | some o => exact absurd (Heap.lt_size (F.keep _ _ e)) (Nat.lt_irrefl _)
  · obtain ⟨oL, _, _, hL, _⟩ := F.ns
    exact Nat.ne_of_gt (Heap.lt_size hL)

theorem off_of {h : Heap} {news : List (Addr × Obj)} (N : News g L h news) : ∀ p ∈ news, p.1 ≠ h.objs.size := fun p hp => Nat.ne_of_lt (Heap.lt_size (N p hp).1)

theorem news_push {h : Heap} {news : List (Addr × Obj)} (N : News g L h news) (o : Obj) : News g L (h.push o) news := fun p hp => ⟨Heap.get?_push_of_some _ (N p hp).1, (N p hp).2⟩

noncomputable def ForGoal (w : World) (A : Around) (env : Env) (target : PySem.Expr) (body orelse : List Stmt) (Q : Flow → Shared → Prop) (it : Value) (s₂ : Shared) : Prop :=
  codeAny (model P w) A (.forLoop target it body orelse env) (fun r s' => match r with | .ok f => Q f s' | .error e => cameBackBy (model P w) A env (fun _ _ => False) e s') s₂

theorem for_start {target iter : PySem.Expr} {body orelse : List Stmt} {pos : Pos}
    (h : wpAny (model P w) A (eval iter env) (fun x s₁ => wpAny (model P w) A (pyIter x) (ForGoal w A env target body orelse Q) (fun _ _ => False) s₁) (fun _ _ => False) s)
    (hs : ∀ x, foldedSetIterable iter env x = pure x := by intro _; rfl) :
    wpAny (model P w) A (exec (.For target iter body orelse pos) env) Q (fun _ _ => False) s := wpAny_For h hs

noncomputable def TgtOk (target : PySem.Expr) : Prop := (∃ x p, target = .Name x p) ∨ (∃ xs k p, target = .Tuple xs k p)
theorem TgtOk.name {x : Str} {p : Pos} : TgtOk (.Name x p) := .inl ⟨x, p, rfl⟩
theorem TgtOk.tup {xs : List PySem.Expr} {k : Nat} {p : Pos} : TgtOk (.Tuple xs k p) := .inr ⟨xs, k, p, rfl⟩
theorem TgtOk.go {target : PySem.Expr} (h : TgtOk target) {I : Addr} {o : Obj} {c : String} {fs : Array Value} {v : Value} {s' : Shared} {R : Unit → Shared → Prop} {E : Value → Shared → Prop} (ho : s'.heap.get? I = some o) (hc : o.cls = .type c) (hd : o.data = .fields fs)
    (hn : ["enumerate", "zip", "dict_itemiterator", "dict_reverseitemiterator", "odict_iterator", "itertools.zip_longest", "itertools.pairwise"].contains c = false) (hR : R () s') :
    wpAny (model P w) A (letOwnedTupleGo target (.ref I) v) R E s' := by
  rcases h with ⟨x, p, rfl⟩ | ⟨xs, k, p, rfl⟩
  · exact wpAny_pure hR
  · unfold letOwnedTupleGo
    cases v with
    | ref a =>
      dsimp only
      refine wpAny_bind (wpAny_load ho ?_)
      rw [hc, hd]
      dsimp only
      rw [hn]
      exact wpAny_pure hR
    | _ => exact wpAny_pure hR

theorem for_list {target : PySem.Expr} {body orelse : List Stmt} {ax : Addr} {vs : List Value} (hh : A.handled = none)
    (J : Nat → (Str → Option Value) → List (Addr × Obj) → Prop)
    (hl : s.heap.IsList ax vs.toArray)
    (hax : (∃ o, g.get? ax = some o) ∨ (∃ o, ∀ i m news, J i m news → (ax, o) ∈ news))
    (F : Fr g L s.heap m₀) (N : News g L s.heap news₀) (h0 : J 0 m₀ news₀)
    (turn : ∀ i v m news I o h tk, i < vs.length → vs[i]? = some v → J i m news → (∀ p ∈ news, p.1 ≠ I) → Fr g L h m → News g L h ((I, o) :: news) →
      wpAny (model P w) A (assign target env v) (fun _ s₂ => wpAny (model P w) A (execs body env) (ForP g L I o (J (i + 1)) s Q) (fun _ _ => False) s₂) (fun _ _ => False) { s with heap := h, toks := tk })
    (done : ∀ m news h tk, J vs.length m news → Fr g L h m → News g L h news → wpAny (model P w) A (execs orelse env) Q (fun _ _ => False) { s with heap := h, toks := tk })
    (ht : TgtOk target ) :
    wpAny (model P w) A (pyIter (.ref ax)) (ForGoal w A env target body orelse Q) (fun _ _ => False) s := by
  refine wpAny_pyIter_list hl ?_
  have hne : ax ≠ s.heap.objs.size := by obtain ⟨o, ho, _⟩ := hl; exact Nat.ne_of_lt (Heap.lt_size ho)
  have W := Walks.list (prog := P) (w := w) hh s.heap.objs.size ax hne vs.toArray
  rw [List.size_toArray] at W
  refine for_ind (s := { s with heap := s.heap.push { cls := .type "list_iterator", data := .fields #[.ref ax, .int 0 0] } }) W J (by simp) ?_ ?_ (F.push _) (news_push N _) (fresh_of F).1 (fresh_of F).2
    ⟨⟨_, Heap.get?_push_size _ rfl, rfl, rfl⟩, hl.push _⟩ h0 (off_of N) ?_ ?_ ?_
  · intro b hb
    rcases List.mem_cons.mp hb with rfl | hb
    · exact .inl rfl
    · rw [List.mem_singleton.mp hb]; exact .inr hax
  · rintro i h ⟨⟨o, ho, _⟩, _⟩
    exact ⟨o, ho⟩
  · intro i v m news o h tk hi hP hJ hoff F' N'
    exact turn i v m news _ o h tk hi (by simpa using hP) hJ hoff F' N'
  · exact done
  · rintro i v s' R E ⟨⟨o, ho, hc, hd⟩, _⟩ hR
    exact ht.go ho hc hd (by decide) hR

theorem for_tuple {target : PySem.Expr} {body orelse : List Stmt} {ax : Addr} {vs : List Value} (hh : A.handled = none)
    (J : Nat → (Str → Option Value) → List (Addr × Obj) → Prop)
    (hl : s.heap.IsTuple ax vs.toArray)
    (hax : (∃ o, g.get? ax = some o) ∨ (∃ o, ∀ i m news, J i m news → (ax, o) ∈ news))
    (F : Fr g L s.heap m₀) (N : News g L s.heap news₀) (h0 : J 0 m₀ news₀)
    (turn : ∀ i v m news I o h tk, i < vs.length → vs[i]? = some v → J i m news → (∀ p ∈ news, p.1 ≠ I) → Fr g L h m → News g L h ((I, o) :: news) →
      wpAny (model P w) A (assign target env v) (fun _ s₂ => wpAny (model P w) A (execs body env) (ForP g L I o (J (i + 1)) s Q) (fun _ _ => False) s₂) (fun _ _ => False) { s with heap := h, toks := tk })
    (done : ∀ m news h tk, J vs.length m news → Fr g L h m → News g L h news → wpAny (model P w) A (execs orelse env) Q (fun _ _ => False) { s with heap := h, toks := tk })
    (ht : TgtOk target ) :
    wpAny (model P w) A (pyIter (.ref ax)) (ForGoal w A env target body orelse Q) (fun _ _ => False) s := by
  refine wpAny_pyIter_tuple hl ?_
  have hne : ax ≠ s.heap.objs.size := by obtain ⟨o, ho, _⟩ := hl; exact Nat.ne_of_lt (Heap.lt_size ho)
  have W := Walks.tuple (prog := P) (w := w) hh s.heap.objs.size ax hne vs.toArray
  rw [List.size_toArray] at W
  refine for_ind (s := { s with heap := s.heap.push { cls := .type "tuple_iterator", data := .fields #[.ref ax, .int 0 0] } }) W J (by simp) ?_ ?_ (F.push _) (news_push N _) (fresh_of F).1 (fresh_of F).2
    ⟨⟨_, Heap.get?_push_size _ rfl, rfl, rfl⟩, hl.push _⟩ h0 (off_of N) ?_ ?_ ?_
  · intro b hb
    rcases List.mem_cons.mp hb with rfl | hb
    · exact .inl rfl
    · rw [List.mem_singleton.mp hb]; exact .inr hax
  · rintro i h ⟨⟨o, ho, _⟩, _⟩
    exact ⟨o, ho⟩
  · intro i v m news o h tk hi hP hJ hoff F' N'
    exact turn i v m news _ o h tk hi (by simpa using hP) hJ hoff F' N'
  · exact done
  · rintro i v s' R E ⟨⟨o, ho, hc, hd⟩, _⟩ hR
    exact ht.go ho hc hd (by decide) hR

/-- over a range iterator that stands at I -/
theorem for_rangeiter {target : PySem.Expr} {body orelse : List Stmt} {I : Addr} {a c : Int} {cnt : Nat} (hh : A.handled = none)
    (J : Nat → (Str → Option Value) → List (Addr × Obj) → Prop)
    (hr : IsRangeIter s.heap I a cnt c)
    (F : Fr g L s.heap m₀) (N : News g L s.heap news₀) (hI0 : g.get? I = none) (hIL : I ≠ L) (hoff : ∀ p ∈ news₀, p.1 ≠ I) (h0 : J 0 m₀ news₀)
    (turn : ∀ i t m news o h tk, i < cnt → J i m news → (∀ p ∈ news, p.1 ≠ I) → Fr g L h m → News g L h ((I, o) :: news) →
      wpAny (model P w) A (assign target env (.int (a + i * c) t)) (fun _ s₂ => wpAny (model P w) A (execs body env) (ForP g L I o (J (i + 1)) s Q) (fun _ _ => False) s₂) (fun _ _ => False) { s with heap := h, toks := tk })
    (done : ∀ m news h tk, J cnt m news → Fr g L h m → News g L h news → wpAny (model P w) A (execs orelse env) Q (fun _ _ => False) { s with heap := h, toks := tk })
    (ht : TgtOk target ) :
    ForGoal w A env target body orelse Q (.ref I) s := by
  have W := Walks.range (prog := P) (w := w) hh I a c cnt
  refine for_ind W J (by simp) ?_ ?_ F N hI0 hIL (by simpa using hr) h0 hoff ?_ ?_ ?_
  · intro b hb
    exact .inl (List.mem_singleton.mp hb)
  · intro i h ho
    exact ⟨_, ho⟩
  · rintro i v m news o h tk hi ⟨t, rfl⟩ hJ hoff F' N'
    exact turn i t m news o h tk hi hJ hoff F' N'
  · exact done
  · intro i v s' R E ho hR
    exact ht.go ho rfl rfl (by decide) hR
end
end Mine
end

-- part Rev
section
open PySem PySem.W PySem.Calls PyProof.Rows Mine.hd
set_option Elab.async false
set_option maxRecDepth 100000
namespace Mine
theorem sub_ri_reversed : isSubtype (.type "range_iterator") (.type "reversed") = pure false := by rw [isSubtype_type]; kernel_rfl

noncomputable def revSmall (a b c : Int) : Bool := Builtin.Range.rangeFitsLong a && Builtin.Range.rangeFitsLong b && Builtin.Range.rangeFitsLong c && Builtin.Range.rangeFitsLong (-c) && Builtin.Range.rangeFitsLong (a - c) && Builtin.Range.rangeFitsLong (Builtin.Range.rangeSize a b c)

theorem range_rev (r : Addr) (a b c : Int) (t u v : Tok) (hc0 : ¬ (!(Builtin.Range.rangeFitsLong a && Builtin.Range.rangeFitsLong b && Builtin.Range.rangeFitsLong c && Builtin.Range.rangeFitsLong (-c) && Builtin.Range.rangeFitsLong (a - c) && Builtin.Range.rangeFitsLong (Builtin.Range.rangeSize a b c))) = true) :
    Meets (Builtin.«range.__reversed__» ⟨[.ref r], []⟩) (fun _ R s => s.heap.get? r = some { cls := .type "range", dict := none, data := .fields #[.int a t, .int b u, .int c v], slots := #[] } ∧
      R (.ok (.ret (Value.ref s.heap.objs.size))) { s with heap := s.heap.push { cls := Value.type (if (Builtin.Range.rangeFitsLong a && Builtin.Range.rangeFitsLong b && Builtin.Range.rangeFitsLong c && Builtin.Range.rangeFitsLong (-c) && Builtin.Range.rangeFitsLong (a - c) && Builtin.Range.rangeFitsLong (Builtin.Range.rangeSize a b c)) = true then "range_iterator" else "longrange_iterator"), data := .fields #[rawInt (a + (Builtin.Range.rangeSize a b c - 1) * c), rawInt (Builtin.Range.rangeSize a b c), rawInt (-c)] } }) :=
  .of_wp fun prog w A R s h => by obtain ⟨hp, g, d, tk, os⟩ := s; obtain ⟨hl, h⟩ := h; wp_walk; exact ⟨_, rfl, h⟩

section
variable {w : World} {A : Around} {E : Value → Shared → Prop} {s : Shared}
noncomputable def riObj (x left step : Int) : Obj := { cls := .type "range_iterator", data := .fields #[rawInt x, rawInt left, rawInt step] }

theorem call_range_rev {r : Addr} {n : Nat} {t u v : Tok} {Q : Value → Shared → Prop} (hr : IsRange s.heap r 0 n 1 t u v) (hn : n < 2 ^ 20)
    (h : Q (.ref s.heap.objs.size) { s with heap := s.heap.push (riObj ((n : Int) - 1) n (-1)) }) : wpAny (model P w) A (call (.builtin "range.__reversed__") [.ref r]) Q E s := by
  have hsz : Builtin.Range.rangeSize 0 (n : Int) 1 = n := by rw [rangeSize_nat]; omega
  have hf : ∀ i : Int, -(2 ^ 63) ≤ i → i < 2 ^ 63 → Builtin.Range.rangeFitsLong i = true := fun i h1 h2 => by
    unfold Builtin.Range.rangeFitsLong
    simp only [Bool.and_eq_true, decide_eq_true_eq]
    exact ⟨h1, h2⟩
  have hsm : (Builtin.Range.rangeFitsLong 0 && Builtin.Range.rangeFitsLong n && Builtin.Range.rangeFitsLong 1 && Builtin.Range.rangeFitsLong (-1) && Builtin.Range.rangeFitsLong (0 - 1) && Builtin.Range.rangeFitsLong (Builtin.Range.rangeSize 0 n 1)) = true := by
    rw [hsz, hf n (by omega) (by omega)]
    decide
  refine call_meets F.slot_range_reversed ⟨_, hr, rfl⟩ F.entry_range_reversed (F.args_range_reversed_1 _) (range_rev r 0 n 1 t u v (by rw [hsm]; decide)) ⟨hr, ?_⟩
  rw [hsm, hsz]
  rw [if_pos rfl]
  have e : (0 : Int) + ((n : Int) - 1) * 1 = (n : Int) - 1 := by omega
  rw [e]
  exact h

theorem code_reversed_range {r : Addr} {n : Nat} {t u v : Tok} {Q₁ : Value → Shared → Prop} (hr : IsRange s.heap r 0 n 1 t u v) (hn : n < 2 ^ 20)
    (h : Q₁ (.ref s.heap.objs.size) { s with heap := s.heap.push (riObj ((n : Int) - 1) n (-1)) }) :
    codeAny (model P w) A (.call (.builtin "reversed.__new__") ⟨[.type "reversed", .ref r], []⟩) (wants Q₁ E) s := by
  have hT : s.TypeIs (.ref r) "range" := ⟨_, hr, rfl⟩
  refine codeAny_of_tree ?_
  show wpAny _ A.in1 (do checkBuiltinCall "reversed.__new__" ⟨[.type "reversed", .ref r], []⟩; again (.builtin "reversed.__new__" ⟨[.type "reversed", .ref r], []⟩)) _ _ s
  refine wpAny_bind (wpAny_of_eq (PySem.F.newCall_reversed_1 _) (wpAny_pure ⟨plainId_quiet PySem.F.plain_reversed_new _, codeAny_builtin PySem.F.entry_reversed_new ?_⟩))
  rw [Around.under_plainId PySem.F.plain_reversed_new _]
  unfold Builtin.«reversed.__new__»
  refine wpAny_bind (wpAny_of_eq (newClass_reversed _) ?_)
  try dsimp only
  refine wpAny_bind (wpAny_of_eq (a := ()) (by first | rfl | kernel_rfl) ?_)
  refine wpAny_bind (wpAny_of_eq (a := ()) (by first | rfl | kernel_rfl) ?_)
  try dsimp only
  refine wpAny_bind (wpAny_specialOf hT F.slot_range_reversed.lookup ?_)
  try dsimp only
  refine wpAny_bind (wpAny_of_eq (F.slot_range_reversed.bind _) ?_)
  try dsimp only
  first
  | rw [if_neg (show ¬ ((Value.builtin "range.__reversed__" == Value.none) = true) from Bool.false_ne_true)]
  | (show wpAny _ _ (if (Value.builtin "range.__reversed__" == Value.none) = true then _ else _) _ _ _; rw [if_neg (show ¬ ((Value.builtin "range.__reversed__" == Value.none) = true) from Bool.false_ne_true)])
  refine wpAny_bind (wpAny_rule ?_)
  refine wpAny_bind (m := runValue (.call (.builtin "range.__reversed__") ⟨[.ref r], []⟩)) (show wpAny _ _ (call (.builtin "range.__reversed__") [.ref r]) _ _ _ from call_range_rev hr hn ?_)
  first
  | exact wpAny_pure h
  | exact wpAny_bind (wpAny_pure (wpAny_pure h))

theorem call_reversed_range {r : Addr} {n : Nat} {t u v : Tok} {Q : Value → Shared → Prop} (hr : IsRange s.heap r 0 n 1 t u v) (hn : n < 2 ^ 20)
    (h : Q (.ref s.heap.objs.size) { s with heap := s.heap.push (riObj ((n : Int) - 1) n (-1)) }) : wpAny (model P w) A (call (.type "reversed") [.ref r]) Q E s := by
  refine callType_other (U := "range_iterator") (Q₁ := fun obj s₁ => obj = .ref s.heap.objs.size ∧ s₁ = { s with heap := s.heap.push (riObj ((n : Int) - 1) n (-1)) }) (by decide +kernel) PySem.F.create_reversed ⟨_, _, PySem.F.mro_reversed⟩ PySem.F.made_reversed sub_ri_reversed (PySem.F.typeCall_reversed_1 _) (code_reversed_range hr hn ⟨rfl, rfl⟩) ?_
  rintro obj s₁ ⟨rfl, rfl⟩
  exact ⟨⟨_, Heap.get?_push_size _ rfl, rfl⟩, h⟩
end
end Mine
end

-- part Plain1
section
open PySem
set_option Elab.async false
namespace Mine

theorem set_swap_perm {α : Type} : ∀ {xs : List α} {i j : Nat} {a x : α}, i ≠ j → i < xs.length → xs[j]? = some a → ((xs.set i a).set j x).Perm (xs.set i x)
  | y :: ys, 0, j + 1, a, x, _, _, h => by
    have hj : ys[j]? = some a := by simpa using h
    show (a :: ys.set j x).Perm (x :: ys)
    clear h
    induction ys generalizing j with
    | nil => simp at hj
    | cons z zs ih =>
      cases j with
      | zero =>
        simp at hj
        subst hj
        exact List.Perm.swap _ _ _
      | succ j =>
        have hj' : zs[j]? = some a := by simpa using hj
        have := ih j (by omega) (by simp) hj'
        show (a :: z :: zs.set j x).Perm (x :: z :: zs)
        exact (List.Perm.swap _ _ _).trans ((this.cons z).trans (List.Perm.swap _ _ _))
  | y :: ys, i + 1, 0, a, x, _, hi, h => by
    simp at h
    subst h
    have hi' : i < ys.length := by simpa using hi
    show (x :: ys.set i y).Perm (y :: ys.set i x)
    clear hi
    induction ys generalizing i with
    | nil => simp at hi'
    | cons z zs ih =>
      cases i with
      | zero => exact List.Perm.swap _ _ _
      | succ i =>
        have hi'' : i < zs.length := by simpa using hi'
        have := ih i (by omega) hi''
        show (x :: z :: zs.set i y).Perm (y :: z :: zs.set i x)
        exact (List.Perm.swap _ _ _).trans ((this.cons z).trans (List.Perm.swap _ _ _))
  | y :: ys, i + 1, j + 1, a, x, hne, hi, h => by
    have := set_swap_perm (xs := ys) (i := i) (j := j) (a := a) (x := x) (fun e => hne (by rw [e])) (by simpa using hi) (by simpa using h)
    exact this.cons y
  | y :: ys, 0, 0, a, x, hne, _, _ => absurd rfl hne
  | [], _, _, _, _, _, hi, _ => by simp at hi

theorem downLoop_perm (xs : List Elt) (start pos : Nat) (x : Elt) (hp : pos < xs.length) : ((downLoop xs start pos x).1.set (downLoop xs start pos x).2 x).Perm (xs.set pos x) ∧ (downLoop xs start pos x).2 < (downLoop xs start pos x).1.length := by
  fun_induction downLoop xs start pos x with
  | case1 xs pos h p hpp hlt ih =>
    obtain ⟨h1, h2⟩ := ih (by rw [List.length_set]; omega)
    refine ⟨h1.trans (set_swap_perm (by omega) hp hpp), h2⟩
  | case2 xs pos h p hpp hlt => exact ⟨.refl _, hp⟩
  | case3 xs pos h hpp => exact ⟨.refl _, hp⟩
  | case4 xs pos h => exact ⟨.refl _, hp⟩

theorem upLoop_perm (xs : List Elt) (pos : Nat) (x : Elt) (hp : pos < xs.length) : ((upLoop xs pos).1.set (upLoop xs pos).2 x).Perm (xs.set pos x) ∧ (upLoop xs pos).2 < (upLoop xs pos).1.length := by
  fun_induction upLoop xs pos with
  | case1 xs pos h => exact ⟨.refl _, hp⟩
  | case2 xs pos c h1 h2 ih =>
    have := (List.getElem?_eq_some_iff.mp h1).1
    obtain ⟨p1, p2⟩ := ih (by rw [List.length_set]; omega)
    exact ⟨p1.trans (set_swap_perm (by omega) hp h1), p2⟩
  | case3 xs pos c h1 r h2 hlt ih =>
    have := (List.getElem?_eq_some_iff.mp h1).1
    obtain ⟨p1, p2⟩ := ih (by rw [List.length_set]; omega)
    exact ⟨p1.trans (set_swap_perm (by omega) hp h1), p2⟩
  | case4 xs pos c h1 r h2 hlt ih =>
    have := (List.getElem?_eq_some_iff.mp h2).1
    obtain ⟨p1, p2⟩ := ih (by rw [List.length_set]; omega)
    exact ⟨p1.trans (set_swap_perm (by omega) hp h2), p2⟩

theorem suL_perm {xs : List Elt} {pos : Nat} {x : Elt} (hp : pos < xs.length) : (suL xs pos x).Perm (xs.set pos x) := by
  unfold suL sdL
  obtain ⟨p1, p2⟩ := upLoop_perm xs pos x hp
  have q := (downLoop_perm ((upLoop xs pos).1.set (upLoop xs pos).2 x) pos (upLoop xs pos).2 x (by rw [List.length_set]; exact p2)).1
  rw [List.set_set] at q
  exact q.trans p1

theorem set_same {α : Type} {xs : List α} {i : Nat} {x : α} (h : xs[i]? = some x) : xs.set i x = xs := by
  obtain ⟨hi, e⟩ := List.getElem?_eq_some_iff.mp h
  rw [← e]
  exact List.set_getElem_self hi

theorem suL_perm' {xs : List Elt} {pos : Nat} {x : Elt} (hx : xs[pos]? = some x) : (suL xs pos x).Perm xs := by
  have := suL_perm (x := x) (List.getElem?_eq_some_iff.mp hx).1
  rwa [set_same hx] at this

noncomputable def hfLoop : Nat → List Elt → List Elt
  | 0, ys => ys
  | p + 1, ys => hfLoop p (match ys[p]? with | some x => suL ys p x | none => ys)
end Mine
end

section
open PySem PySem.W PySem.Calls PyProof.Rows Mine.hd
namespace Mine
local macro_rules | `(tactic| walk_at "go") => `(tactic| repeat' (first
  | (k_unfold; (try dsimp only))
  | ((fail_if_success (with_reducible first
      | show wpAny _ _ (exec (Stmt.While _ _ _ _) _) _ _ _
      | show wpAny _ _ (exec (Stmt.For _ _ _ _ _) _) _ _ _
      | show wpAny _ _ (pyIter _) _ _ _
      | show wpAny _ _ (call (Value.ref _) _ _) _ _ _
      | show wpAny _ _ (subscriptTail _ _ (Value.ref _) _) _ _ _
      | show wpAny _ _ (setItem (Value.ref _) _ _) _ _ _
      | show wpAny _ _ (compareOp _ (Value.ref _) _) _ _ _
      | show wpAny _ _ (truthy (Value.ref _)) _ _ _
      | show wpAny _ _ (call (Value.builtin "list.pop") _ _) _ _ _
      | show wpAny _ _ (call (Value.builtin "list.append") _ _) _ _ _
      | show wpAny _ _ (call (Value.type "reversed") _ _) _ _ _
      | show wpAny _ _ (call (Value.type "range") _ _) _ _ _
      | show wpAny _ _ (call (Value.builtin "len") _ _) _ _ _)); (first | ((try dsimp only); walk1) | walk1))))


-- part HF
section
open PySem PySem.W PySem.Calls PyProof.Rows Mine.hd
set_option Elab.async false
set_option maxRecDepth 100000
set_option maxHeartbeats 8000000

theorem fill_HF : ∀ (w : World) (h : Heap), (heap_39 w.params).In h → PySem.Challenge.rw_op0076_01 = PySem.Challenge.rw_op0076_01 := by
  k_fill
  intros
  rfl
noncomputable def HFInv (l : Addr) (xs : List Elt) (n : Nat) (i : Nat) (m : Str → Option Value) (news : List (Addr × Obj)) : Prop :=
  ∃ ys : List Elt, news = [(l, listOf (List.map Elt.val ys).toArray n)] ∧ Pinned m [(Str.ofString "x", .ref l)] ∧ ys.Perm xs ∧ hfLoop (xs.length / 2 - i) ys = hfLoop (xs.length / 2) xs

theorem heapify_spec {w : World} {A : Around} {E : Value → Shared → Prop} {s : Shared} {base : Heap} {mean : ExcName → Option Value} {mg mb : Str → Option Value}
  {Q : Value → Shared → Prop} {l : Addr} {xs : List Elt} {n : Nat}
  (X : (heap_39 w.params).In base) (T : Tp mean mg mb base) (st : base.StaysIn s.heap) (hl0 : base.get? l = none) (hl : s.heap.get? l = some (listOf (xs.map Elt.val).toArray n))
  (hH : A.handled = none) (hA : A.depth + 30 < recursionLimit) (hU : A.units + 60 < cLine)
  (hlen : xs.length < 2 ^ 20)
  (hxs : ∀ e ∈ xs, s.heap.get? e.a = some e.obj ∧ e.a ≠ l)
  (h : ∀ h' tk', But l s.heap h' → h'.get? l = some (listOf ((hfLoop (xs.length / 2) xs).map Elt.val).toArray n) → Q .none {s with heap := h', toks := tk'}) :
   wpAny (model P w) A (call (.ref 42) [.ref l]) Q E s := by
  refine' enter1 (binds := [(Str.ofString "x", .ref l)]) X T st hl0 hl ?k6 ?k7 ?k8 ?k9 ?kB ?_ ?c2 ?c3 ?c4 ?c5; (case k6 => k_is); (case k7 => k_is); (case k8 => omega); (case k9 => exact BindsTo.of_eq rfl); (case c5 => decide); (case kB => exact locs rfl); (case c2 => exact rfl); (case c3 => exact rfl); (case c4 => exact rfl)
  intro g L' h₁ hg F N Xg Tg
  have hgs : ∀ e ∈ xs, g.get? e.a = some e.obj := fun e he => hg _ _ (hxs e he).2 (hxs e he).1
  (try dsimp only)
  (try k_fold)
  walk_at "go"
  refine get_len (News.get N (.head _)) (by simpa using by omega) ?_
  intro t3 tk3
  rw [List.length_map]
  walk_at "go"
  refine for_start ?_
  walk_at "go"
  rename_i F N
  have e2 : ((xs.length : Int)).fdiv 2 = ((xs.length / 2 : Nat) : Int) := by rw [Int.fdiv_eq_ediv_of_nonneg _ (by omega)]; omega
  rw [e2]
  refine range1_rows F N ?_
  intro h2 tk2 u1 u2 u3 hr F2 N2 _
  walk_at "go"
  refine call_reversed_range (n := xs.length / 2) hr (by omega) ?_
  have hri := Heap.get?_push_size h2 (o := riObj (((xs.length / 2 : Nat) : Int) - 1) ((xs.length / 2 : Nat) : Int) (-1)) rfl
  refine wpAny_pyIter_rangeiter hri ?_
  refine for_rangeiter (by exact hH) (HFInv l xs n) hri (F2.push _) (news_push N2 _) (fresh_of F2).1 (fresh_of F2).2 (off_of N2) ⟨xs, rfl, ⟨rfl, trivial⟩, .refl _, rfl⟩ ?_ ?_ TgtOk.name
  · rintro i t m news o h3 tk3 hi ⟨ys, rfl, hm, hp, hd⟩ hoff F3 N3
    replace F3 := Fr.pins F3 hm
    walk_at "go"
    rename_i F4 N4
    dsimp only at N4 hoff
    have hyl : ys.length = xs.length := hp.length_eq
    have e3 : (((xs.length / 2 : Nat) : Int) - 1 + (i : Int) * -1) = ((xs.length / 2 - 1 - i : Nat) : Int) := by omega
    rw [e3]
    have hq : xs.length / 2 - 1 - i < ys.length := by omega
    have hx := List.getElem?_eq_getElem hq
    have hlI : l ≠ h2.objs.size := hoff (l, _) (.head _)
    have hys : ∀ e ∈ ys, g.get? e.a = some e.obj := fun e he => hgs e (hp.mem_iff.mp he)
    have hl0' := News.fresh N4 (.tail _ (.head _))
    refine siftup_spec (xs := ys) (x := ys[xs.length / 2 - 1 - i]) Xg Tg F4.keep hl0' (News.get N4 (.tail _ (.head _))) (by simp only [depth_deeper]; omega) (by simp only [Around.deeper_units]; omega) hx (by omega)
      (fun e he => ⟨F4.keep _ _ (hys e he), fun z => by have := hys e he; rw [z, hl0'] at this; cases this⟩) ?_
    intro h5 tk5 hb hl5
    walk_at "go"
    dsimp only [ForP]
    refine ⟨h5, tk5, _, [(l, listOf (List.map Elt.val (suL ys (xs.length / 2 - 1 - i) ys[xs.length / 2 - 1 - i])).toArray n)], rfl, Fr.but F4 hb (N4 _ (.tail _ (.head _))).2.1 hl0', ?_, ?_, _, rfl, ⟨rfl, trivial⟩, (suL_perm' hx).trans hp, ?_⟩
    · intro p hp'
      rcases List.mem_cons.mp hp' with rfl | hp'
      · exact ⟨hb _ _ (Ne.symm hlI) (N4 _ (.head _)).1, (N4 _ (.head _)).2⟩
      · rw [List.mem_singleton.mp hp']
        exact ⟨hl5, (N4 _ (.tail _ (.head _))).2⟩
    · intro p hp'
      rw [List.mem_singleton.mp hp']
      exact hlI
    · rw [← hd]
      have e4 : xs.length / 2 - i = (xs.length / 2 - 1 - i) + 1 := by omega
      rw [e4, hfLoop, hx]
      congr 1
      omega
  · rintro m news h3 tk3 ⟨ys, rfl, hm, hp, hd⟩ F3 N3
    walk_at "go"
    rw [Nat.sub_self, hfLoop] at hd
    rw [← hd] at h
    exact h _ _ (fun b o n e => F3.keep _ _ (hg b o n e)) (News.get N3 (.head _))
end

-- part HP
section
open PySem PySem.W PySem.Calls PyProof.Rows Mine.hd
set_option Elab.async false
set_option maxRecDepth 100000
set_option maxHeartbeats 8000000

theorem fill_HP : ∀ (w : World) (h : Heap), (heap_39 w.params).In h → PySem.Challenge.rw_op0076_01 = PySem.Challenge.rw_op0076_01 := by
  k_fill
  intros
  rfl
noncomputable def popTop (ys : List Elt) (y : Elt) : Elt := match ys with | [] => y | z :: _ => z
noncomputable def popRest (ys : List Elt) (y : Elt) : List Elt := match ys with | [] => [] | _ :: zs => suL (y :: zs) 0 y

theorem heappop_spec {w : World} {A : Around} {E : Value → Shared → Prop} {s : Shared} {base : Heap} {mean : ExcName → Option Value} {mg mb : Str → Option Value}
  {Q : Value → Shared → Prop} {l : Addr} {xs : List Elt} {x : Elt} {n : Nat}
  (X : (heap_39 w.params).In base) (T : Tp mean mg mb base) (st : base.StaysIn s.heap) (hl0 : base.get? l = none) (hl : s.heap.get? l = some (listOf ((xs ++ [x]).map Elt.val).toArray n))
  (hA : A.depth + 30 < recursionLimit) (hU : A.units + 60 < cLine)
  (hlen : xs.length < 2 ^ 19)
  (hxs : ∀ e ∈ xs ++ [x], s.heap.get? e.a = some e.obj ∧ e.a ≠ l)
  (h : ∀ h' tk' n', But l s.heap h' → h'.get? l = some (listOf ((popRest xs x).map Elt.val).toArray n') → Q (.ref (popTop xs x).a) {s with heap := h', toks := tk'}) :
   wpAny (model P w) A (call (.ref 28) [.ref l]) Q E s := by
  refine' enter1 (binds := [(Str.ofString "heap", .ref l)]) X T st hl0 hl ?k6 ?k7 ?k8 ?k9 ?kB ?_ ?c2 ?c3 ?c4 ?c5; (case k6 => k_is); (case k7 => k_is); (case k8 => omega); (case k9 => exact BindsTo.of_eq rfl); (case c5 => decide); (case kB => exact locs rfl); (case c2 => exact rfl); (case c3 => exact rfl); (case c4 => exact rfl)
  intro g L' h₁ hg F N Xg Tg
  have hgs : ∀ e ∈ xs ++ [x], g.get? e.a = some e.obj := fun e he => hg _ _ (hxs e he).2 (hxs e he).1
  (try dsimp only)
  (try k_fold)
  rw [List.map_append, List.map_cons, List.map_nil] at N
  walk_at "go"
  refine pop_last F N (.head fun _ hp => nomatch hp) (by simpa using by omega) ?_
  intro h2 F2 N2
  walk_at "go"
  rename_i F3 N3
  refine get_truth (News.get N3 (.head _)) (by simpa using by omega) ?_
  intro tk4
  cases xs with
  | nil =>
    walk_at "go"
    exact h _ _ (n + 1) (fun b o n e => F3.keep _ _ (hg b o n e)) (News.get N3 (.head _))
  | cons z zs =>
    walk_at "go"
    · rename_i he
      exact absurd he (by simp)
    · refine sub_get (News.get N3 (.head _)) 0 rfl (by omega) rfl ?_
      walk_at "go"
      rename_i F4 N4
      refine set_at F4 N4 (fun _ hp => nomatch hp) 0 rfl (by omega) (by simp) ?_
      intro h5 F5 N5
      walk_at "go"
      have hl0' := News.fresh N5 (.head _)
      have hys : ∀ e ∈ x :: zs, g.get? e.a = some e.obj := fun e he => hgs e (by simp at he ⊢; rcases he with he | he <;> simp [he])
      refine siftup_spec (pos := 0) (xs := x :: zs) (x := x) Xg Tg F5.keep hl0' (News.get N5 (.head _)) (by simp only [depth_deeper]; omega) (by simp only [Around.deeper_units]; omega) rfl (by simp at hlen ⊢; omega)
        (fun e he => ⟨F5.keep _ _ (hys e he), fun z => by have := hys e he; rw [z, hl0'] at this; cases this⟩) ?_
      intro h6 tk6 hb hl6
      have F6 := Fr.but F5 hb (N5 _ (.head _)).2.1 hl0'
      have N6 := News.but N5 hb (fun _ hp => nomatch hp) hl6
      walk_at "go"
      exact h _ _ (n + 1) (fun b o n e => F6.keep _ _ (hg b o n e)) (News.get N6 (.head _))

theorem heapreplace_spec {w : World} {A : Around} {E : Value → Shared → Prop} {s : Shared} {base : Heap} {mean : ExcName → Option Value} {mg mb : Str → Option Value}
  {Q : Value → Shared → Prop} {l : Addr} {zs : List Elt} {z x : Elt} {n : Nat}
  (X : (heap_39 w.params).In base) (T : Tp mean mg mb base) (st : base.StaysIn s.heap) (hl0 : base.get? l = none) (hl : s.heap.get? l = some (listOf ((z :: zs).map Elt.val).toArray n))
  (hA : A.depth + 30 < recursionLimit) (hU : A.units + 60 < cLine)
  (hlen : zs.length < 2 ^ 19)
  (hxs : ∀ e ∈ x :: z :: zs, s.heap.get? e.a = some e.obj ∧ e.a ≠ l)
  (h : ∀ h' tk' n', But l s.heap h' → h'.get? l = some (listOf ((suL (x :: zs) 0 x).map Elt.val).toArray n') → Q (.ref z.a) {s with heap := h', toks := tk'}) :
   wpAny (model P w) A (call (.ref 35) [.ref l, .ref x.a]) Q E s := by
  refine' enter1 (binds := [(Str.ofString "heap", .ref l), (Str.ofString "item", .ref x.a)]) X T st hl0 hl ?k6 ?k7 ?k8 ?k9 ?kB ?_ ?c2 ?c3 ?c4 ?c5; (case k6 => k_is); (case k7 => k_is); (case k8 => omega); (case k9 => exact BindsTo.of_eq rfl); (case c5 => decide); (case kB => exact locs rfl); (case c2 => exact rfl); (case c3 => exact rfl); (case c4 => exact rfl)
  intro g L' h₁ hg F N Xg Tg
  have hgs : ∀ e ∈ x :: z :: zs, g.get? e.a = some e.obj := fun e he => hg _ _ (hxs e he).2 (hxs e he).1
  (try dsimp only)
  (try k_fold)
  walk_at "go"
  refine sub_get (News.get N (.head _)) 0 rfl (by omega) rfl ?_
  walk_at "go"
  rename_i F4 N4
  refine set_at F4 N4 (fun _ hp => nomatch hp) 0 rfl (by omega) (by simp) ?_
  intro h5 F5 N5
  walk_at "go"
  have hl0' := News.fresh N5 (.head _)
  have hys : ∀ e ∈ x :: zs, g.get? e.a = some e.obj := fun e he => hgs e (by simp at he ⊢; rcases he with he | he <;> simp [he])
  refine siftup_spec (pos := 0) (xs := x :: zs) (x := x) Xg Tg F5.keep hl0' (News.get N5 (.head _)) (by simp only [depth_deeper]; omega) (by simp only [Around.deeper_units]; omega) rfl (by simp at hlen ⊢; omega)
    (fun e he => ⟨F5.keep _ _ (hys e he), fun z => by have := hys e he; rw [z, hl0'] at this; cases this⟩) ?_
  intro h6 tk6 hb hl6
  have F6 := Fr.but F5 hb (N5 _ (.head _)).2.1 hl0'
  have N6 := News.but N5 hb (fun _ hp => nomatch hp) hl6
  walk_at "go"
  exact h _ _ n (fun b o n e => F6.keep _ _ (hg b o n e)) (News.get N6 (.head _))
end

-- part Enum
section
open PySem PySem.W PySem.Calls PyProof.Rows Mine.hd
set_option Elab.async false
set_option maxRecDepth 100000
section
variable {w : World} {A : Around} {E : Value → Shared → Prop} {s : Shared}

theorem nextOf_tup_item {it t : Addr} {i : Nat} {items : Array Value} {x : Value} {Q : Value → Shared → Prop} (hit : s.heap.IsTupleIter it t i)
    (ht : s.heap.IsTuple t items) (hx : items[i]? = some x)
    (hQ : ∀ h', h'.IsTupleIter it t (i + 1) → Heap.SameBut it s.heap h' → Q x { s with heap := h' }) :
    wpAny (model P w) A (Builtin.SmallTypes.nextOf (.ref it)) Q E s := by
  obtain ⟨o, ho, hc, hd⟩ := id hit
  obtain ⟨ol, hol, _, nl, hdl⟩ := ht
  unfold Builtin.SmallTypes.nextOf
  refine wpAny_bind (wpAny_callSpecial?_slot (name := Str.ofString "__next__") hit.typeIs F.slot_tuple_iterator_next
    (wpAny_call_entry F.slot_tuple_iterator_next hit.typeIs F.entry_tuple_iterator_next ?_ (F.args_tuple_iterator_next_1 _)))
  show wpAny _ _ (field (.ref it) 0 >>= _) _ _ s
  refine wpAny_bind (wpAny_field ho hd (x := .ref t) rfl ?_)
  show wpAny _ _ (if (Value.ref t == Value.none) = true then _ else _) _ _ s
  rw [if_neg (show ¬ ((Value.ref t == Value.none) = true) from Bool.false_ne_true)]
  show wpAny _ _ (field (.ref it) 1 >>= _) _ _ s
  refine wpAny_bind (wpAny_field ho hd (x := .int i 0) rfl ?_)
  show wpAny _ _ (seqItems? (.ref t) >>= _) _ _ s
  refine wpAny_bind (wpAny_seqItems hol hdl ?_)
  simp only [Int.toNat_natCast, hx]
  refine wpAny_bind (wpAny_setField ho hd (by simp) (wpAny_pure ⟨x, rfl, wpAny_pure (hQ _ ?_ (Heap.SameBut.update ..))⟩))
  exact ⟨_, Heap.get?_update_self _ ho (Obj.isFreed_of_fields (Obj.data_mapFields hd _)), (Obj.cls_mapFields ..).trans hc, by
    rw [Obj.data_mapFields hd]; simp [rawInt]⟩

theorem nextOf_tup_end {it t : Addr} {i : Nat} {items : Array Value} {Q : Value → Shared → Prop} (hh : A.handled = none)
    (hit : s.heap.IsTupleIter it t i) (ht : s.heap.IsTuple t items) (hx : items[i]? = none)
    (hE : ∀ h' e, Heap.ExtBut it s.heap h' → (∃ o, h'.get? e = some o ∧ o.cls = .type "StopIteration") → E (.ref e) { s with heap := h' }) :
    wpAny (model P w) A (Builtin.SmallTypes.nextOf (.ref it)) Q E s := by
  obtain ⟨o, ho, hc, hd⟩ := id hit
  obtain ⟨ol, hol, _, nl, hdl⟩ := ht
  unfold Builtin.SmallTypes.nextOf
  refine wpAny_bind (wpAny_callSpecial?_slot (name := Str.ofString "__next__") hit.typeIs F.slot_tuple_iterator_next
    (wpAny_call_entry F.slot_tuple_iterator_next hit.typeIs F.entry_tuple_iterator_next ?_ (F.args_tuple_iterator_next_1 _)))
  show wpAny _ _ (field (.ref it) 0 >>= _) _ _ s
  refine wpAny_bind (wpAny_field ho hd (x := .ref t) rfl ?_)
  show wpAny _ _ (if (Value.ref t == Value.none) = true then _ else _) _ _ s
  rw [if_neg (show ¬ ((Value.ref t == Value.none) = true) from Bool.false_ne_true)]
  show wpAny _ _ (field (.ref it) 1 >>= _) _ _ s
  refine wpAny_bind (wpAny_field ho hd (x := .int i 0) rfl ?_)
  show wpAny _ _ (seqItems? (.ref t) >>= _) _ _ s
  refine wpAny_bind (wpAny_seqItems hol hdl ?_)
  simp only [Int.toNat_natCast, hx]
  refine wpAny_bind (wpAny_rule (wpAny_bind (wpAny_setField ho hd (by simp) ?_)))
  show wpAny _ _ (newExc (.type "StopIteration") [] >>= _) _ _ _
  refine wpAny_bind ?_
  simp only [newExc, newTuple]
  refine wpAny_bind (wpAny_newObj_type ?_ (by size_fits))
  refine wpAny_bind (m := firstArgMember _ _) (wpAny_of_eq (a := Value.none) (by first | rfl | (simp only [firstArgMember]; rfl)) ?_)
  refine wpAny_newObj_type ?_ (by size_fits)
  simp only [raiseNew]
  refine wpAny_bind (wpAny_handled ?_)
  first | rw [show A.in1.handled = none from hh] | rw [hh]
  refine wpAny_bind (wpAny_pure (wpAny_throw ?_))
  exact hE _ _ (((Heap.SameBut.update ..).extBut.push _).push _) ⟨_, Heap.get?_push_size _ rfl, rfl⟩

theorem enumT_item {e it l : Addr} {i : Nat} {items : Array Value} {x old : Value} {Q : Value → Shared → Prop}
    (he : IsEnum s.heap e it i old) (hit : s.heap.IsTupleIter it l i) (hl : s.heap.IsTuple l items) (hx : items[i]? = some x) (hne : e ≠ it)
    (hQ : ∀ h', IsEnumOut h' e it ((i : Int) + 1) x s.heap.objs.size → h'.IsTupleIter it l (i + 1) →
      h'.get? s.heap.objs.size = some { cls := .type "tuple", data := .seq #[.int i s.toks, x] } → h'.objs.size = s.heap.objs.size + 1 →
      (∀ b o, b ≠ e → b ≠ it → s.heap.get? b = some o → h'.get? b = some o) → Q (.ref s.heap.objs.size) { s with heap := h', toks := s.toks + 1 }) :
    wpAny (model P w) A (Builtin.«enumerate.__next__» ⟨[.ref e], []⟩) (fun fin s' => ∃ v, fin = .done (.ret v) ∧ Q v s') E s := by
  obtain ⟨hp, g, d, tk, os⟩ := s
  show wpAny _ _ (field (.ref e) 2 >>= _) _ _ _
  refine wpAny_bind (wpAny_field he rfl (x := .ref it) rfl ?_)
  refine wpAny_bind (nextOf_tup_item hit hl hx fun h₁ hit₁ hs₁ => ?_)
  replace hs₁ : Heap.SameBut it hp h₁ := hs₁
  have he₁ : IsEnum h₁ e it i old := (hs₁.2 e hne).trans he
  show wpAny _ _ (field (.ref e) 3 >>= _) _ _ ⟨h₁, g, d, tk, os⟩
  refine wpAny_bind (wpAny_field he₁ rfl (x := rawInt i) rfl ?_)
  show wpAny _ _ (field (.ref e) 4 >>= _) _ _ ⟨h₁, g, d, tk, os⟩
  refine wpAny_bind (wpAny_field he₁ rfl (x := .none) rfl ?_)
  show wpAny _ _ (mkInt i >>= _) _ _ ⟨h₁, g, d, tk, os⟩
  refine wpAny_bind (wpAny_mkInt ?_)
  show wpAny _ _ (setField (.ref e) 3 (rawInt ((i : Int) + 1)) >>= _) _ _ ⟨h₁, g, d, tk + 1, os⟩
  refine wpAny_bind (wpAny_setField_rec he₁ (by simp) fun h₂ he₂ hs₂ => ?_)
  replace hs₂ : Heap.SameBut e h₁ h₂ := hs₂
  replace he₂ : IsEnum h₂ e it ((i : Int) + 1) old := he₂
  show wpAny _ _ (setField (.ref e) 4 .none >>= _) _ _ ⟨h₂, g, d, tk + 1, os⟩
  refine wpAny_bind (wpAny_setField_rec he₂ (by simp) fun h₃ he₃ hs₃ => ?_)
  replace hs₃ : Heap.SameBut e h₂ h₃ := hs₃
  replace he₃ : IsEnum h₃ e it ((i : Int) + 1) old := he₃
  show wpAny _ _ (newTuple [.int i tk, x] >>= _) _ _ ⟨h₃, g, d, tk + 1, os⟩
  refine wpAny_bind (wpAny_newTuple ?_)
  have he₄ : IsEnum (h₃.push { cls := .type "tuple", data := .seq #[.int i tk, x] }) e it ((i : Int) + 1) old := Heap.get?_push_of_some _ he₃
  generalize hh₄ : h₃.push { cls := .type "tuple", data := .seq #[.int i tk, x] } = h₄ at he₄
  have hsz : h₃.objs.size = hp.objs.size := by rw [hs₃.1, hs₂.1, hs₁.1]
  have hel : e < hp.objs.size := Heap.lt_size he
  have ht₄ : h₄.get? hp.objs.size = some { cls := .type "tuple", data := .seq #[.int i tk, x] } := by rw [← hh₄, ← hsz]; exact Heap.get?_push_size _ rfl
  have hz₄ : h₄.objs.size = hp.objs.size + 1 := by rw [← hh₄, Heap.size_push, hsz]
  have hk₄ : ∀ b o, b ≠ e → b ≠ it → hp.get? b = some o → h₄.get? b = some o := fun b o hbe hbi hb => by
    rw [← hh₄]; exact Heap.get?_push_of_some _ (hs₃.extBut b o hbe (hs₂.extBut b o hbe (hs₁.extBut b o hbi hb)))
  have hit₄ : h₄.IsTupleIter it l (i + 1) := by
    rw [← hh₄]; obtain ⟨o, ho, r⟩ := (hit₁.extBut hs₂.extBut (Ne.symm hne)).extBut hs₃.extBut (Ne.symm hne); exact ⟨o, Heap.get?_push_of_some _ ho, r⟩
  show wpAny _ _ (Builtin.SmallTypes.ownedTupleIsFree (.ref e) >>= _) _ _ ⟨h₄, g, d, tk + 1, os⟩
  rw [hsz]
  clear hh₄ he₃ hs₃ he₂ hs₂ he₁ hs₁ hit₁ hsz h₃ h₂ h₁
  refine wpAny_bind ?_
  · unfold Builtin.SmallTypes.ownedTupleIsFree
    refine wpAny_bind (wpAny_field he₄ rfl (x := .none) rfl (wpAny_pure ?_))
    simp only [if_true]
    refine wpAny_bind (wpAny_rule ?_)
    refine wpAny_bind (wpAny_field he₄ rfl (x := old) rfl ?_)
    refine wpAny_bind (wpAny_setField_rec he₄ (by simp) fun h₅ he₅ hs₅ => ?_)
    replace hs₅ : Heap.SameBut e h₄ h₅ := hs₅
    replace he₅ : IsEnum h₅ e it ((i : Int) + 1) x := he₅
    show wpAny _ _ (Builtin.SmallTypes.ownedTupleHandOut (.ref e) (.ref hp.objs.size) >>= _) _ _ ⟨h₅, g, d, tk + 1, os⟩
    refine wpAny_bind ?_
    · unfold Builtin.SmallTypes.ownedTupleHandOut
      refine wpAny_bind (wpAny_setField_rec he₅ (by simp) fun h₆ he₆ hs₆ => ?_)
      replace hs₆ : Heap.SameBut e h₅ h₆ := hs₆
      replace he₆ : IsEnumOut h₆ e it ((i : Int) + 1) x hp.objs.size := he₆
      refine wpAny_setField_rec he₆ (by simp) fun h₇ he₇ hs₇ => ?_
      replace hs₇ : Heap.SameBut e h₆ h₇ := hs₇
      replace he₇ : IsEnumOut h₇ e it ((i : Int) + 1) x hp.objs.size := he₇
      refine wpAny_bind (wpAny_letGo (wpAny_pure ⟨_, rfl, hQ h₇ he₇ ?_ ?_ ?_ ?_⟩))
      · exact ((hit₄.extBut hs₅.extBut (Ne.symm hne)).extBut hs₆.extBut (Ne.symm hne)).extBut hs₇.extBut (Ne.symm hne)
      · exact hs₇.extBut _ _ (Nat.ne_of_gt hel) (hs₆.extBut _ _ (Nat.ne_of_gt hel) (hs₅.extBut _ _ (Nat.ne_of_gt hel) ht₄))
      · rw [hs₇.1, hs₆.1, hs₅.1, hz₄]
      · exact fun b o hbe hbi hb => hs₇.extBut b o hbe (hs₆.extBut b o hbe (hs₅.extBut b o hbe (hk₄ b o hbe hbi hb)))

theorem next_enumT {e it l : Addr} {i : Nat} {items : Array Value} {x old : Value} {Q : Option Value → Shared → Prop}
    (he : IsEnum s.heap e it i old) (hit : s.heap.IsTupleIter it l i) (hl : s.heap.IsTuple l items) (hx : items[i]? = some x) (hne : e ≠ it)
    (hQ : ∀ h', IsEnumOut h' e it ((i : Int) + 1) x s.heap.objs.size → h'.IsTupleIter it l (i + 1) →
      h'.get? s.heap.objs.size = some { cls := .type "tuple", data := .seq #[.int i s.toks, x] } → h'.objs.size = s.heap.objs.size + 1 →
      (∀ b o, b ≠ e → b ≠ it → s.heap.get? b = some o → h'.get? b = some o) → Q (some (.ref s.heap.objs.size)) { s with heap := h', toks := s.toks + 1 }) :
    wpAny (model P w) A (pyNext (.ref e)) Q E s := by
  have hT : s.TypeIs (.ref e) "enumerate" := ⟨_, he, rfl⟩
  unfold pyNext
  exact wpAny_bind (wpAny_attempt (wpAny_callSpecial?_slot (name := Str.ofString "__next__") hT F.slot_enumerate_next
    (wpAny_call_entry F.slot_enumerate_next hT F.entry_enumerate_next
      (enumT_item he hit hl hx hne fun h' a b c d k => wpAny_pure (hQ h' a b c d k)) (F.args_enumerate_next_1 _))))

theorem next_enumT_end {e it l : Addr} {i : Nat} {items : Array Value} {old : Value} {Q : Option Value → Shared → Prop} (hh : A.handled = none)
    (he : IsEnum s.heap e it i old) (hit : s.heap.IsTupleIter it l i) (hl : s.heap.IsTuple l items) (hx : items[i]? = none)
    (hQ : ∀ h', Heap.ExtBut it s.heap h' → Q none { s with heap := h' }) : wpAny (model P w) A (pyNext (.ref e)) Q E s := by
  have hT : s.TypeIs (.ref e) "enumerate" := ⟨_, he, rfl⟩
  unfold pyNext
  refine wpAny_bind (wpAny_attempt (wpAny_callSpecial?_slot (name := Str.ofString "__next__") hT F.slot_enumerate_next
    (wpAny_call_entry F.slot_enumerate_next hT F.entry_enumerate_next ?_ (F.args_enumerate_next_1 _))))
  show wpAny _ _ (field (.ref e) 2 >>= _) _ _ _
  refine wpAny_bind (wpAny_field he rfl (x := .ref it) rfl ?_)
  refine wpAny_bind (nextOf_tup_end hh hit hl hx fun h' x he' hx' => ?_)
  obtain ⟨o, ho, hc⟩ := hx'
  refine wpAny_bind (wpAny_isInstance (T := "StopIteration") (b := true) ⟨o, ho, hc⟩ isSubtype_stop ?_)
  exact wpAny_pure (hQ _ he')

theorem enumT_new (l : Addr) (items : Array Value) (n : Nat) :
    Meets (Builtin.«enumerate.__new__» ⟨[.type "enumerate", .ref l], []⟩) (fun _ R s => s.heap.get? l = some { cls := .type "tuple", dict := none, data := .seq items n, slots := #[] } ∧
      R (.ok (.ret (.ref (s.heap.push { cls := .type "tuple_iterator", data := .fields #[.ref l, .int 0 0] }).objs.size)))
        { s with heap := (s.heap.push { cls := .type "tuple_iterator", data := .fields #[.ref l, .int 0 0] }).push { cls := .type "enumerate", data := .fields #[.none, .bool false, .ref s.heap.objs.size, rawInt 0, .none, .none] } }) :=
  .of_wp fun prog w A R s h => by
    obtain ⟨hp, g, d, tk, os⟩ := s; obtain ⟨hl, h⟩ := h
    have hsub := sub_enumerate
    have hL : Heap.IsTuple (Shared.heap ⟨hp, g, d, tk, os⟩) l items := ⟨_, hl, rfl, n, rfl⟩
    wp_walk using PySem.AutoSeq1.wpAny_loadPart' hl
    refine wpAny_stack_any fun st => wpAny_pure ?_
    split
    · rename_i c _ _ _ _ _
      cases (c == Value.type "enumerate")
      · wp_walk using PySem.AutoSeq1.wpAny_loadPart' hl, wpAny_pyIter_tuple hL
        exact ⟨_, rfl, h⟩
      · wp_walk using PySem.AutoSeq1.wpAny_loadPart' hl, wpAny_pyIter_tuple hL
        exact ⟨_, rfl, h⟩
    · wp_walk using PySem.AutoSeq1.wpAny_loadPart' hl, wpAny_pyIter_tuple hL
      exact ⟨_, rfl, h⟩

theorem call_enumT {l : Addr} {items : Array Value} {n : Nat} {Q : Value → Shared → Prop}
    (hl : s.heap.get? l = some { cls := .type "tuple", dict := none, data := .seq items n, slots := #[] })
    (h : ∀ h', IsEnum h' (s.heap.objs.size + 1) s.heap.objs.size 0 .none → h'.IsTupleIter s.heap.objs.size l 0 → h'.objs.size = s.heap.objs.size + 2 →
      (∀ b o, s.heap.get? b = some o → h'.get? b = some o) → Q (.ref (s.heap.objs.size + 1)) { s with heap := h' }) :
    wpAny (model P w) A (call (.type "enumerate") [.ref l]) Q E s := by
  refine callType_new F.called_enumerate (by decide) (F.typeCall_enumerate_1 _) (F.newCall_enumerate_1 _) (fun obj => F.args_object_init_2 obj _) F.entry_enumerate_new
    (enumT_new l items n) ⟨hl, ?_⟩
  have hz : (s.heap.push { cls := .type "tuple_iterator", data := .fields #[.ref l, .int 0 0] }).objs.size = s.heap.objs.size + 1 := Heap.size_push ..
  show _ ∧ _
  rw [hz]
  have he : IsEnum ((s.heap.push { cls := .type "tuple_iterator", data := .fields #[.ref l, .int 0 0] }).push
      { cls := .type "enumerate", data := .fields #[.none, .bool false, .ref s.heap.objs.size, rawInt 0, .none, .none] }) (s.heap.objs.size + 1) s.heap.objs.size 0 .none := by
    have := Heap.get?_push_size (s.heap.push { cls := .type "tuple_iterator", data := .fields #[.ref l, .int 0 0] })
      (o := { cls := .type "enumerate", data := .fields #[.none, .bool false, .ref s.heap.objs.size, rawInt 0, .none, .none] }) rfl
    rw [hz] at this; exact this
  refine ⟨⟨_, he, rfl⟩, h _ he ⟨_, Heap.get?_push_of_some _ (Heap.get?_push_size _ rfl), rfl, rfl⟩ (by rw [Heap.size_push, hz]) fun b o x => Heap.get?_push_of_some _ (Heap.get?_push_of_some _ x)⟩
end
end

-- part Enum2
section
open PySem PySem.W PySem.Calls PyProof.Rows Mine.hd
set_option Elab.async false
set_option maxRecDepth 100000
section
variable {w : World} {A : Around} {s : Shared} {g : Heap} {L : Addr} {m₀ : Str → Option Value} {news₀ : List (Addr × Obj)} {env : Env} {Q : Flow → Shared → Prop}

noncomputable def EnumP (g : Heap) (L e it : Addr) (oe oi : Obj) (J : (Str → Option Value) → List (Addr × Obj) → Prop) (s : Shared) (Q : Flow → Shared → Prop) (f : Flow) (s₃ : Shared) : Prop :=
  match f with
  | .next => ∃ h tk m news, s₃ = { s with heap := h, toks := tk } ∧ Fr g L h m ∧ News g L h ((e, oe) :: (it, oi) :: news) ∧ (∀ p ∈ news, p.1 ≠ e ∧ p.1 ≠ it) ∧ J m news
  | .cont => ∃ h tk m news, s₃ = { s with heap := h, toks := tk } ∧ Fr g L h m ∧ News g L h ((e, oe) :: (it, oi) :: news) ∧ (∀ p ∈ news, p.1 ≠ e ∧ p.1 ≠ it) ∧ J m news
  | .brk => Q .next s₃
  | .ret v => Q (.ret v) s₃

/-- over enumerate(t), t a tuple of the base -/
theorem for_enum {elts : List PySem.Expr} {kk : Nat} {ps : Pos} {body orelse : List Stmt} {t : Addr} {vs : List Value} {n : Nat} (hh : A.handled = none)
    (J : Nat → (Str → Option Value) → List (Addr × Obj) → Prop)
    (hg : g.get? t = some { cls := .type "tuple", dict := none, data := .seq vs.toArray n, slots := #[] })
    (F : Fr g L s.heap m₀) (N : News g L s.heap news₀) (h0 : J 0 m₀ news₀)
    (turn : ∀ i v u m news e it oe oi T h tk, i < vs.length → vs[i]? = some v → J i m news → (∀ p ∈ news, p.1 ≠ e ∧ p.1 ≠ it) → Fr g L h m → News g L h ((e, oe) :: (it, oi) :: news) → h.IsTuple T #[.int i u, v] →
      wpAny (model P w) A (assign (.Tuple elts kk ps) env (.ref T)) (fun _ s₂ => wpAny (model P w) A (execs body env) (EnumP g L e it oe oi (J (i + 1)) s Q) (fun _ _ => False) s₂) (fun _ _ => False) { s with heap := h, toks := tk })
    (done : ∀ m news h tk, J vs.length m news → Fr g L h m → News g L h news → wpAny (model P w) A (execs orelse env) Q (fun _ _ => False) { s with heap := h, toks := tk }) :
    wpAny (model P w) A (call (.type "enumerate") [.ref t]) (fun x s₁ => wpAny (model P w) A (pyIter x) (ForGoal w A env (.Tuple elts kk ps) body orelse Q) (fun _ _ => False) s₁) (fun _ _ => False) s := by
  have never : ∀ e s', False → notedBy (model P w) A env (fun e s' => cameBackBy (model P w) A env (fun _ _ => False) e s') e s' := fun _ _ x => x.elim
  refine call_enumT (F.keep _ _ hg) fun h1 he hit hsz hk1 => ?_
  refine wpAny_pyIter_enum he ?_
  have hgt : ∀ b : Nat, g.get? b = none ∨ b < s.heap.objs.size := fun b => by
    cases e : g.get? b with
    | none => exact .inl rfl
    | some o => exact .inr (Heap.lt_size (F.keep _ _ e))
  generalize hE : s.heap.objs.size + 1 = e at he hsz
  generalize hI : s.heap.objs.size = it at he hit hsz hE hgt
  have he0 : g.get? e = none := by rcases hgt e with q | q; exact q; omega
  have hi0 : g.get? it = none := by rcases hgt it with q | q; exact q; omega
  have hLlt : L < it := by obtain ⟨oL, _, _, hL, _⟩ := F.ns; rw [← hI]; exact Heap.lt_size hL
  replace hLlt := ltN hLlt
  have heL : e ≠ L := neN (by omega)
  have hiL : it ≠ L := neN (by omega)
  have hei : e ≠ it := by omega
  have hoff0 : ∀ p ∈ news₀, p.1 ≠ e ∧ p.1 ≠ it := fun p hp => by
    have := ltN (Heap.lt_size (N p hp).1)
    rw [hI] at this
    exact ⟨neN (by omega), neN (by omega)⟩
  have hte : t ≠ e := fun q => by rw [q, he0] at hg; cases hg
  have hti : t ≠ it := fun q => by rw [q, hi0] at hg; cases hg
  unfold ForGoal
  refine forLoop_go (fun k s' => ∃ (i : Nat) (h : Heap) (tk : Nat) (m : Str → Option Value) (news : List (Addr × Obj)), s' = { s with heap := h, toks := tk } ∧ Fr g L h m ∧ News g L h news ∧ (∀ p ∈ news, p.1 ≠ e ∧ p.1 ≠ it) ∧ (∃ old, IsEnum h e it i old) ∧ h.IsTupleIter it t i ∧ J i m news ∧ i ≤ vs.length ∧ k = vs.length + 1 - i)
    ?_ (vs.length + 1) ⟨0, h1, s.toks, m₀, news₀, rfl, ?_, ?_, hoff0, ⟨_, he⟩, hit, h0, Nat.zero_le _, rfl⟩
  rotate_left
  · obtain ⟨oL, es, ep, hL, r⟩ := F.ns
    exact ⟨⟨oL, es, ep, hk1 _ _ hL, r⟩, fun b o q => hk1 _ _ (F.keep b o q), F.above⟩
  · exact fun p hp => ⟨hk1 _ _ (N p hp).1, (N p hp).2⟩
  rintro k s' ⟨i, h, tk, m, news, rfl, F, N, hoff, ⟨old, he⟩, hit, hJ, hi, rfl⟩
  have htup : h.IsTuple t vs.toArray := ⟨_, F.keep _ _ hg, rfl, n, rfl⟩
  have moved : ∀ h' : Heap, (∀ b o, b ≠ e → b ≠ it → h.get? b = some o → h'.get? b = some o) → Fr g L h' m ∧ News g L h' news := by
    intro h' hk
    obtain ⟨oL, es, ep, hL, r⟩ := F.ns
    refine ⟨⟨⟨oL, es, ep, hk _ _ (Ne.symm heL) (Ne.symm hiL) hL, r⟩, fun b o q => hk _ _ ?_ ?_ (F.keep b o q), F.above⟩, fun p hp => ⟨hk _ _ (hoff p hp).1 (hoff p hp).2 (N p hp).1, (N p hp).2⟩⟩
    · intro z; rw [z, he0] at q; cases q
    · intro z; rw [z, hi0] at q; cases q
  by_cases hlt : i < vs.length
  · refine next_enumT he hit htup (x := vs[i]) (by simp [hlt]) hei fun h2 ho2 hit2 hT2 hsz2 hk2 => ?_
    dsimp only
    refine wpAny_letOwnedTupleGo_enum ho2 fun h3 he3 hs3 => ?_
    have hTe : h.objs.size ≠ e := fun q => by have := ltN (Heap.lt_size he); have q' : (h.objs.size : Nat) = e := q; omega
    have hk3 : ∀ b o, b ≠ e → b ≠ it → h.get? b = some o → h3.get? b = some o := fun b o n1 n2 q => (hs3.2 b n1).trans (hk2 b o n1 n2 q)
    obtain ⟨F3, N3⟩ := moved h3 hk3
    obtain ⟨oi, hoi, r⟩ := hit2
    have hoi3 : h3.get? it = some oi := (hs3.2 it (Ne.symm hei)).trans hoi
    obtain ⟨oe, hoe⟩ : ∃ oe, oe = ({ cls := .type "enumerate", dict := none, data := .fields #[.none, .bool false, .ref it, rawInt ((i : Int) + 1), .none, vs[i]], slots := #[] } : Obj) := ⟨_, rfl⟩
    replace he3 : h3.get? e = some oe := by rw [hoe]; exact he3
    have N4 : News g L h3 ((e, oe) :: (it, oi) :: news) := fun p hp => by
      rcases List.mem_cons.mp hp with rfl | hp
      · exact ⟨he3, heL, he0⟩
      · rcases List.mem_cons.mp hp with rfl | hp
        · exact ⟨hoi3, hiL, hi0⟩
        · exact N3 p hp
    refine wpAny_mono (turn i vs[i] _ m news e it oe oi h.objs.size h3 _ hlt (List.getElem?_eq_getElem hlt) hJ hoff F3 N4 ⟨_, (hs3.2 _ hTe).trans hT2, rfl, _, rfl⟩) (fun _ s₂ h₂ => wpAny_mono h₂ (fun f s₃ h₃ => ?_) never) never
    have fin : (∃ h tk m news, s₃ = { s with heap := h, toks := tk } ∧ Fr g L h m ∧ News g L h ((e, oe) :: (it, oi) :: news) ∧ (∀ p ∈ news, p.1 ≠ e ∧ p.1 ≠ it) ∧ J (i + 1) m news) →
        ∃ k, k < vs.length + 1 - i ∧ ∃ (i : Nat) (h : Heap) (tk : Nat) (m : Str → Option Value) (news : List (Addr × Obj)), s₃ = { s with heap := h, toks := tk } ∧ Fr g L h m ∧ News g L h news ∧ (∀ p ∈ news, p.1 ≠ e ∧ p.1 ≠ it) ∧ (∃ old, IsEnum h e it i old) ∧ h.IsTupleIter it t i ∧ J i m news ∧ i ≤ vs.length ∧ k = vs.length + 1 - i := by
      rintro ⟨h₄, tk₄, m₄, news₄, rfl, F₄, N₄, hoff₄, hJ₄⟩
      exact ⟨vs.length + 1 - (i + 1), by omega, i + 1, h₄, tk₄, m₄, news₄, rfl, F₄, fun p hp => N₄ p (.tail _ (.tail _ hp)), hoff₄, ⟨vs[i], by have q := (N₄ _ (.head _)).1; rw [hoe] at q; exact q⟩, ⟨oi, (N₄ _ (.tail _ (.head _))).1, r⟩, hJ₄, hlt, rfl⟩
    cases f with
    | next => exact fin h₃
    | cont => exact fin h₃
    | brk => exact h₃
    | ret v => exact h₃
  · have hin : i = vs.length := by omega
    refine next_enumT_end hh he hit htup (by simp [hin]) fun h2 hx2 => ?_
    have hk2 : ∀ b o, b ≠ e → b ≠ it → h.get? b = some o → h2.get? b = some o := fun b o _ n2 q => hx2 b o n2 q
    obtain ⟨F3, N3⟩ := moved h2 hk2
    exact wpAny_mono (done m news h2 _ (hin ▸ hJ) F3 N3) (fun _ _ x => x) never
end
end

-- part Rules5
section
open PySem PySem.W PySem.Calls PyProof.Rows Mine.hd
set_option Elab.async false
set_option maxRecDepth 100000
section
variable {w : World} {A : Around} {E : Value → Shared → Prop} {s : Shared} {g : Heap} {L : Addr} {m : Str → Option Value} {news : List (Addr × Obj)} {env : Env}

theorem ext_all {h h' : Heap} (x : Heap.ExtBut h.objs.size h h') : ∀ b o, h.get? b = some o → h'.get? b = some o := fun b o e => x b o (Nat.ne_of_lt (Heap.lt_size e)) e

theorem fr_ext {h h' : Heap} (F : Fr g L h m) (k : ∀ b o, h.get? b = some o → h'.get? b = some o) : Fr g L h' m := by
  obtain ⟨oL, es, ep, hL, r⟩ := F.ns
  exact ⟨⟨oL, es, ep, k _ _ hL, r⟩, fun b o e => k _ _ (F.keep b o e), F.above⟩
theorem news_ext {h h' : Heap} (N : News g L h news) (k : ∀ b o, h.get? b = some o → h'.get? b = some o) : News g L h' news := fun p hp => ⟨k _ _ (N p hp).1, (N p hp).2⟩

theorem unpack2 {x y : Str} {p1 p2 ps : Pos} {kk : Nat} {T : Addr} {a b : Value} {Q : Unit → Shared → Prop} (hh : A.handled = none) (hT : s.heap.IsTuple T #[a, b]) (F : Fr g L s.heap m) (N : News g L s.heap news)
    (h : ∀ h', Fr g L h' m → News g L h' news → wpAny (model P w) A (assign (.Name x p1) env a) (fun _ s₁ => wpAny (model P w) A (assign (.Name y p2) env b) Q E s₁) E { s with heap := h' }) :
    wpAny (model P w) A (assign (.Tuple [.Name x p1, .Name y p2] kk ps) env (.ref T)) Q E s := by
  refine wpAny_assign_Tuple hh hT rfl rfl fun h' hx => ?_
  have k := ext_all hx
  show wpAny _ _ (assignInOrder [assign (.Name x p1) env, assign (.Name y p2) env] [a, b]) _ _ _
  have e := h h' (fr_ext F k) (news_ext N k)
  unfold assignInOrder
  refine wpAny_bind (wpAny_holding (wpAny_mono e (fun _ s₁ h₁ => ?_) fun _ _ q => q))
  unfold assignInOrder
  refine wpAny_bind (wpAny_holding (wpAny_mono h₁ (fun _ s₂ h₂ => ?_) fun _ _ q => q))
  exact wpAny_pure h₂

theorem unpack3 {x y z : Str} {p1 p2 p3 ps : Pos} {kk : Nat} {T : Addr} {a b c : Value} {Q : Unit → Shared → Prop} (hh : A.handled = none) (hT : s.heap.IsTuple T #[a, b, c]) (F : Fr g L s.heap m) (N : News g L s.heap news)
    (h : ∀ h', Fr g L h' m → News g L h' news → wpAny (model P w) A (assign (.Name x p1) env a) (fun _ s₁ => wpAny (model P w) A (assign (.Name y p2) env b) (fun _ s₁ => wpAny (model P w) A (assign (.Name z p3) env c) Q E s₁) E s₁) E { s with heap := h' }) :
    wpAny (model P w) A (assign (.Tuple [.Name x p1, .Name y p2, .Name z p3] kk ps) env (.ref T)) Q E s := by
  refine wpAny_assign_Tuple hh hT rfl rfl fun h' hx => ?_
  have k := ext_all hx
  show wpAny _ _ (assignInOrder [assign (.Name x p1) env, assign (.Name y p2) env, assign (.Name z p3) env] [a, b, c]) _ _ _
  have e := h h' (fr_ext F k) (news_ext N k)
  unfold assignInOrder
  refine wpAny_bind (wpAny_holding (wpAny_mono e (fun _ s₁ h₁ => ?_) fun _ _ q => q))
  unfold assignInOrder
  refine wpAny_bind (wpAny_holding (wpAny_mono h₁ (fun _ s₂ h₂ => ?_) fun _ _ q => q))
  unfold assignInOrder
  refine wpAny_bind (wpAny_holding (wpAny_mono h₂ (fun _ s₂ h₃ => ?_) fun _ _ q => q))
  exact wpAny_pure h₃
end
end

-- part SQ
section
open PySem PySem.W PySem.Calls PyProof.Rows Mine.hd
set_option Elab.async false
set_option maxRecDepth 100000
set_option maxHeartbeats 8000000

theorem fill_SQ : ∀ (w : World) (h : Heap), (heap_39 w.params).In h → PySem.Challenge.rw_op0076_01 = PySem.Challenge.rw_op0076_01 := by
  k_fill
  intros
  rfl
noncomputable def stripT (x : Str) : Str :=
  if Txt.endswith (if Txt.startswith x (Str.ofString "\"") = true then Txt.slice x (some 1) none else x) (Str.ofString "\"") = true
  then Txt.slice (if Txt.startswith x (Str.ofString "\"") = true then Txt.slice x (some 1) none else x) none (some (-1))
  else if Txt.startswith x (Str.ofString "\"") = true then Txt.slice x (some 1) none else x

theorem strip_spec {w : World} {A : Around} {E : Value → Shared → Prop} {s : Shared} {base : Heap} {mean : ExcName → Option Value} {mg mb : Str → Option Value}
  {Q : Value → Shared → Prop} {x : Str} {t : Tok}
  (X : (heap_39 w.params).In base) (T : Tp mean mg mb base) (st : base.StaysIn s.heap)
  (hA : A.depth + 30 < recursionLimit) (hU : A.units + 60 < cLine)
  (hlen : x.length < 2 ^ 19)
  (h : ∀ h' tk' t', s.heap.StaysIn h' → Q (.str (stripT x) t') {s with heap := h', toks := tk'}) :
   wpAny (model P w) A (call (.ref 21) [.str x t]) Q E s := by
  refine' enter0 (binds := [(Str.ofString "text", .str x t)]) X T st ?k6 ?k7 ?k8 ?k9 ?kB ?_ ?c2 ?c3 ?c4 ?c5; (case k6 => k_is); (case k7 => k_is); (case k8 => omega); (case k9 => exact BindsTo.of_eq rfl); (case c5 => decide); (case kB => exact locs rfl); (case c2 => exact rfl); (case c3 => exact rfl); (case c4 => exact rfl)
  intro L' h₁ F N Xg Tg
  (try dsimp only)
  (try k_fold)
  walk_at "go"
  · rename_i h1 _ _ _ _ _ _ _ h2 _ _ _ _ _ _ F' _
    have e : stripT x = Txt.slice (Txt.slice x (some 1) none) none (some (-1)) := by
      unfold stripT
      simp only [h1, h2, if_true]
    rw [e] at h
    exact h _ _ _ F'.keep
  · rename_i h1 _ _ _ _ _ _ F' _ _ h2
    have e : stripT x = Txt.slice x (some 1) none := by
      unfold stripT
      simp only [h1, h2, if_true, if_false, Bool.false_eq_true]
    rw [e] at h
    exact h _ _ _ F'.keep
  · rename_i h1 _ h2 _ _ _ _ _ _ F' _
    have e : stripT x = Txt.slice x none (some (-1)) := by
      unfold stripT
      simp only [h1, h2, if_true, if_false, Bool.false_eq_true]
    rw [e] at h
    exact h _ _ _ F'.keep
  · rename_i h1 _ h2
    have e : stripT x = x := by
      unfold stripT
      simp only [h1, h2, if_false, Bool.false_eq_true]
    rw [e] at h
    exact h _ _ _ F.keep

theorem bitAnd_shift (n : Nat) : ∀ (x y : Int), Builtin.bitAnd x (2 ^ n * y) = 2 ^ n * Builtin.bitAnd (x / 2 ^ n) y := by
  induction n with
  | zero => intro x y; simp
  | succ n ih =>
    intro x y
    have e : (2 : Int) ^ (n + 1) * y = 2 * (2 ^ n * y) := by rw [Int.pow_succ, Int.mul_comm (2 ^ n) 2, Int.mul_assoc]
    have e2 : (2 : Int) ^ (n + 1) = 2 * 2 ^ n := by rw [Int.pow_succ, Int.mul_comm]
    rw [e, kbt_halves]
    have h1 : (2 * ((2 : Int) ^ n * y)) / 2 = 2 ^ n * y := Int.mul_ediv_cancel_left _ (by decide)
    have h2 : ¬ (x % 2 = 1 ∧ (2 * ((2 : Int) ^ n * y)) % 2 = 1) := by
      intro h
      have := h.2
      rw [Int.mul_emod_right] at this
      cases this
    rw [h1, if_neg h2, ih, e2, ← Int.ediv_ediv_of_nonneg (by decide), Int.add_zero, Int.mul_assoc]

theorem bitAnd_ifmt (k : Int) : Builtin.bitAnd k 61440 = k / 4096 % 16 * 4096 := by
  have := bitAnd_shift 12 k 15
  rw [bitAnd_m4] at this
  have e : (2 : Int) ^ 12 = 4096 := by decide
  rw [e] at this
  have e2 : (4096 : Int) * 15 = 61440 := by decide
  rw [e2] at this
  rw [this, Int.mul_comm]

theorem ifmt_spec {w : World} {A : Around} {E : Value → Shared → Prop} {s : Shared} {base : Heap} {mean : ExcName → Option Value} {mg mb : Str → Option Value}
  {Q : Value → Shared → Prop} {k : Int} {t : Tok}
  (X : (heap_39 w.params).In base) (T : Tp mean mg mb base) (st : base.StaysIn s.heap)
  (hA : A.depth + 30 < recursionLimit) (hU : A.units + 60 < cLine)
  (hk0 : 0 ≤ k) (hk1 : k < 2 ^ 20)
  (h : ∀ h' tk' t', s.heap.StaysIn h' → Q (.int (k / 4096 % 16 * 4096) t') {s with heap := h', toks := tk'}) :
   wpAny (model P w) A (call (.ref 63) [.int k t]) Q E s := by
  refine' enter0 (binds := [(Str.ofString "mode", .int k t)]) X T st ?k6 ?k7 ?k8 ?k9 ?kB ?_ ?c2 ?c3 ?c4 ?c5; (case k6 => k_is); (case k7 => k_is); (case k8 => omega); (case k9 => exact BindsTo.of_eq rfl); (case c5 => decide); (case kB => exact locs rfl); (case c2 => exact rfl); (case c3 => exact rfl); (case c4 => exact rfl)
  intro L' h₁ F N Xg Tg
  (try dsimp only)
  (try k_fold)
  walk_at "go"
  rw [bitAnd_ifmt]
  exact h _ _ _ F.keep
end

end Mine
end

-- part FM
section
open PySem PySem.W PySem.Calls PyProof.Rows Mine.hd
set_option Elab.async false
set_option maxRecDepth 100000
set_option maxHeartbeats 8000000
namespace Mine

theorem fill_FM : ∀ (w : World) (h : Heap), (heap_39 w.params).In h → PySem.Challenge.rw_op0076_01 = PySem.Challenge.rw_op0076_01 := by
  k_fill
  intros
  rfl
local macro_rules | `(tactic| walk_at "go") => `(tactic| repeat' (first
  | (k_unfold; (try dsimp only))
  | ((fail_if_success (with_reducible first
      | show wpAny _ _ (exec (Stmt.While _ _ _ _) _) _ _ _
      | show wpAny _ _ (exec (Stmt.For _ _ _ _ _) _) _ _ _
      | show wpAny _ _ (pyIter _) _ _ _
      | show wpAny _ _ (assign (Expr.Tuple _ _ _) _ _) _ _ _
      | show wpAny _ _ (call (Value.type "enumerate") _ _) _ _ _
      | show wpAny _ _ (call (Value.builtin "str.join") _ _) _ _ _
      | show wpAny _ _ (call (Value.ref _) _ _) _ _ _
      | show wpAny _ _ (subscriptTail _ _ (Value.ref _) _) _ _ _
      | show wpAny _ _ (setItem (Value.ref _) _ _) _ _ _
      | show wpAny _ _ (compareOp _ (Value.ref _) _) _ _ _
      | show wpAny _ _ (truthy (Value.ref _)) _ _ _
      | show wpAny _ _ (call (Value.builtin "list.pop") _ _) _ _ _
      | show wpAny _ _ (call (Value.builtin "list.append") _ _) _ _ _
      | show wpAny _ _ (call (Value.type "reversed") _ _) _ _ _
      | show wpAny _ _ (call (Value.type "range") _ _) _ _ _
      | show wpAny _ _ (call (Value.builtin "len") _ _) _ _ _)); (first | ((try dsimp only); walk1) | walk1))))
noncomputable def rowData : Nat → List (Int × Str)
  | 0 => [(40960, Str.ofString "l"), (49152, Str.ofString "s"), (32768, Str.ofString "-"), (24576, Str.ofString "b"), (16384, Str.ofString "d"), (8192, Str.ofString "c"), (4096, Str.ofString "p")]
  | 1 => [(256, Str.ofString "r")]
  | 2 => [(128, Str.ofString "w")]
  | 3 => [(2112, Str.ofString "s"), (2048, Str.ofString "S"), (64, Str.ofString "x")]
  | 4 => [(32, Str.ofString "r")]
  | 5 => [(16, Str.ofString "w")]
  | 6 => [(1032, Str.ofString "s"), (1024, Str.ofString "S"), (8, Str.ofString "x")]
  | 7 => [(4, Str.ofString "r")]
  | 8 => [(2, Str.ofString "w")]
  | 9 => [(513, Str.ofString "t"), (512, Str.ofString "T"), (1, Str.ofString "x")]
  | _ => []
noncomputable def rowAddr : Nat → Addr
  | 0 => 71 | 1 => 73 | 2 => 75 | 3 => 79 | 4 => 81 | 5 => 83 | 6 => 87 | 7 => 89 | 8 => 91 | 9 => 95 | _ => 0

/-- a row of the table: a tuple of pairs -/
noncomputable def RowAt (g : Heap) (ta : Addr) (row : List (Int × Str)) : Prop :=
  ∃ (rs : List Addr) (n : Nat), g.get? ta = some { cls := .type "tuple", dict := none, data := .seq (rs.map Value.ref).toArray n, slots := #[] } ∧ rs.length = row.length ∧
    ∀ (j : Nat) (r : Addr) (b : Int) (c : Str), rs[j]? = some r → row[j]? = some (b, c) → ∃ tb tc, g.IsTuple r #[.int b tb, .str c tc]

noncomputable def hit (i : Nat) (k : Int) (p : Int × Str) : Bool := if i = 0 then k / 4096 % 16 * 4096 == p.1 else Builtin.bitAnd k p.1 == p.1
noncomputable def pick (i : Nat) (k : Int) : Str := match (rowData i).find? (hit i k) with | some p => p.2 | none => if i = 0 then Str.ofString "?" else Str.ofString "-"

theorem rows_at {w : World} {g : Heap} (X : (heap_39 w.params).In g) : ∀ i, i < 10 → RowAt g (rowAddr i) (rowData i) := by
  have tup : ∀ a o, (heap_39 w.params).lookup a = some o → g.get? a = some o := fun a o e => X a o e
  intro i hi
  match i, hi with
  | 0, _ => refine ⟨[64, 65, 66, 67, 68, 69, 70], 0, tup 71 _ (by k_is), rfl, ?_⟩
            intro j r b c h1 h2
            match j, h1, h2 with
            | 0, h1, h2 => cases h1; cases h2; exact ⟨_, _, _, tup 64 _ (by k_is), rfl, 0, rfl⟩
            | 1, h1, h2 => cases h1; cases h2; exact ⟨_, _, _, tup 65 _ (by k_is), rfl, 0, rfl⟩
            | 2, h1, h2 => cases h1; cases h2; exact ⟨_, _, _, tup 66 _ (by k_is), rfl, 0, rfl⟩
            | 3, h1, h2 => cases h1; cases h2; exact ⟨_, _, _, tup 67 _ (by k_is), rfl, 0, rfl⟩
            | 4, h1, h2 => cases h1; cases h2; exact ⟨_, _, _, tup 68 _ (by k_is), rfl, 0, rfl⟩
            | 5, h1, h2 => cases h1; cases h2; exact ⟨_, _, _, tup 69 _ (by k_is), rfl, 0, rfl⟩
            | 6, h1, h2 => cases h1; cases h2; exact ⟨_, _, _, tup 70 _ (by k_is), rfl, 0, rfl⟩
            | j + 7, h1, h2 => exact absurd h1 (by simp)
  | 1, _ => refine ⟨[72], 0, tup 73 _ (by k_is), rfl, ?_⟩
            intro j r b c h1 h2
            match j, h1, h2 with
            | 0, h1, h2 => cases h1; cases h2; exact ⟨_, _, _, tup 72 _ (by k_is), rfl, 0, rfl⟩
            | j + 1, h1, h2 => exact absurd h1 (by simp)
  | 2, _ => refine ⟨[74], 0, tup 75 _ (by k_is), rfl, ?_⟩
            intro j r b c h1 h2
            match j, h1, h2 with
            | 0, h1, h2 => cases h1; cases h2; exact ⟨_, _, _, tup 74 _ (by k_is), rfl, 0, rfl⟩
            | j + 1, h1, h2 => exact absurd h1 (by simp)
  | 3, _ => refine ⟨[76, 77, 78], 0, tup 79 _ (by k_is), rfl, ?_⟩
            intro j r b c h1 h2
            match j, h1, h2 with
            | 0, h1, h2 => cases h1; cases h2; exact ⟨_, _, _, tup 76 _ (by k_is), rfl, 0, rfl⟩
            | 1, h1, h2 => cases h1; cases h2; exact ⟨_, _, _, tup 77 _ (by k_is), rfl, 0, rfl⟩
            | 2, h1, h2 => cases h1; cases h2; exact ⟨_, _, _, tup 78 _ (by k_is), rfl, 0, rfl⟩
            | j + 3, h1, h2 => exact absurd h1 (by simp)
  | 4, _ => refine ⟨[80], 0, tup 81 _ (by k_is), rfl, ?_⟩
            intro j r b c h1 h2
            match j, h1, h2 with
            | 0, h1, h2 => cases h1; cases h2; exact ⟨_, _, _, tup 80 _ (by k_is), rfl, 0, rfl⟩
            | j + 1, h1, h2 => exact absurd h1 (by simp)
  | 5, _ => refine ⟨[82], 0, tup 83 _ (by k_is), rfl, ?_⟩
            intro j r b c h1 h2
            match j, h1, h2 with
            | 0, h1, h2 => cases h1; cases h2; exact ⟨_, _, _, tup 82 _ (by k_is), rfl, 0, rfl⟩
            | j + 1, h1, h2 => exact absurd h1 (by simp)
  | 6, _ => refine ⟨[84, 85, 86], 0, tup 87 _ (by k_is), rfl, ?_⟩
            intro j r b c h1 h2
            match j, h1, h2 with
            | 0, h1, h2 => cases h1; cases h2; exact ⟨_, _, _, tup 84 _ (by k_is), rfl, 0, rfl⟩
            | 1, h1, h2 => cases h1; cases h2; exact ⟨_, _, _, tup 85 _ (by k_is), rfl, 0, rfl⟩
            | 2, h1, h2 => cases h1; cases h2; exact ⟨_, _, _, tup 86 _ (by k_is), rfl, 0, rfl⟩
            | j + 3, h1, h2 => exact absurd h1 (by simp)
  | 7, _ => refine ⟨[88], 0, tup 89 _ (by k_is), rfl, ?_⟩
            intro j r b c h1 h2
            match j, h1, h2 with
            | 0, h1, h2 => cases h1; cases h2; exact ⟨_, _, _, tup 88 _ (by k_is), rfl, 0, rfl⟩
            | j + 1, h1, h2 => exact absurd h1 (by simp)
  | 8, _ => refine ⟨[90], 0, tup 91 _ (by k_is), rfl, ?_⟩
            intro j r b c h1 h2
            match j, h1, h2 with
            | 0, h1, h2 => cases h1; cases h2; exact ⟨_, _, _, tup 90 _ (by k_is), rfl, 0, rfl⟩
            | j + 1, h1, h2 => exact absurd h1 (by simp)
  | 9, _ => refine ⟨[92, 93, 94], 0, tup 95 _ (by k_is), rfl, ?_⟩
            intro j r b c h1 h2
            match j, h1, h2 with
            | 0, h1, h2 => cases h1; cases h2; exact ⟨_, _, _, tup 92 _ (by k_is), rfl, 0, rfl⟩
            | 1, h1, h2 => cases h1; cases h2; exact ⟨_, _, _, tup 93 _ (by k_is), rfl, 0, rfl⟩
            | 2, h1, h2 => cases h1; cases h2; exact ⟨_, _, _, tup 94 _ (by k_is), rfl, 0, rfl⟩
            | j + 3, h1, h2 => exact absurd h1 (by simp)
  | i + 10, h => exact absurd h (by omega)

theorem table_at {w : World} {g : Heap} (X : (heap_39 w.params).In g) : g.get? 96 = some { cls := .type "tuple", dict := none, data := .seq (((List.range 10).map fun i => Value.ref (rowAddr i))).toArray 0, slots := #[] } :=
  X 96 _ (by k_is)

theorem strs_snoc {x : Str} {t : Tok} : ∀ {vs : List Value} {xs : List Str}, StrsAre vs xs → StrsAre (vs ++ [.str x t]) (xs ++ [x])
  | _, _, .nil => .cons x t .nil
  | _, _, .cons y u h => .cons y u (strs_snoc h)

noncomputable def FMInv (pa : Addr) (k : Int) (t : Tok) (i : Nat) (m : Str → Option Value) (news : List (Addr × Obj)) : Prop :=
  ∃ vs n, news = [(pa, listOf (vs : List Value).toArray n)] ∧ StrsAre vs ((List.range i).map fun i => pick i k) ∧ Pinned m [(Str.ofString "mode", .int k t), (Str.ofString "perm", .ref pa)]

noncomputable def FMRow (own : List (Addr × Obj)) (pa ta : Addr) (k : Int) (t u : Tok) (i : Nat) (vs : List Value) (n : Nat) (j : Nat) (m : Str → Option Value) (news : List (Addr × Obj)) : Prop :=
  news = own ++ [(pa, listOf vs.toArray n)] ∧ Pinned m [(Str.ofString "mode", .int k t), (Str.ofString "perm", .ref pa), (Str.ofString "index", .int i u), (Str.ofString "table", .ref ta)] ∧ ∀ p ∈ (rowData i).take j, hit i k p = false

theorem row_len1 : ∀ i, ∀ p ∈ rowData i, p.2.length = 1 := by
  intro i
  match i with
  | 0 | 1 | 2 | 3 | 4 | 5 | 6 | 7 | 8 | 9 => decide
  | i + 10 => intro p hp; exact absurd hp (by simp [rowData])
theorem pick_len (i : Nat) (k : Int) : (pick i k).length = 1 := by
  unfold pick
  cases e : (rowData i).find? (hit i k) with
  | some p => exact row_len1 i p (List.mem_of_find?_eq_some e)
  | none => dsimp only; split <;> decide
theorem pick_weight (k : Int) : ((((List.range 10).map fun i => pick i k).map (·.length)).sum + ((List.range 10).map fun i => pick i k).length) ≤ 1048576 := by
  have e : (((List.range 10).map fun i => pick i k).map (·.length)) = (List.range 10).map fun _ => 1 := by
    rw [List.map_map]
    exact List.map_congr_left fun i _ => pick_len i k
  rw [e]
  simp
  decide

theorem pick_hit {i j : Nat} {k : Int} (hj : j < (rowData i).length) (hno : ∀ p ∈ (rowData i).take j, hit i k p = false) (hy : hit i k (rowData i)[j] = true) : pick i k = ((rowData i)[j]).2 := by
  have e : (rowData i).find? (hit i k) = some (rowData i)[j] := by
    conv => lhs; rw [← List.take_append_drop j (rowData i)]
    rw [List.find?_append, List.find?_eq_none.mpr (fun p hp => by rw [hno p hp]; exact Bool.false_ne_true), Option.none_or, List.drop_eq_getElem_cons hj, List.find?_cons, hy]
  unfold pick
  rw [e]
theorem pick_none {i : Nat} {k : Int} (hno : ∀ p ∈ rowData i, hit i k p = false) : pick i k = if i = 0 then Str.ofString "?" else Str.ofString "-" := by
  unfold pick
  rw [List.find?_eq_none.mpr (fun p hp => by rw [hno p hp]; exact Bool.false_ne_true)]
theorem strs_next {vs : List Value} {i : Nat} {k : Int} {c : Str} {t : Tok} (h : StrsAre vs ((List.range i).map fun i => pick i k)) (e : pick i k = c) : StrsAre (vs ++ [.str c t]) ((List.range (i + 1)).map fun i => pick i k) := by
  rw [List.range_succ, List.map_append, List.map_cons, List.map_nil, e]
  exact strs_snoc h
theorem strs_len : ∀ {vs : List Value} {xs : List Str}, StrsAre vs xs → vs.length = xs.length
  | _, _, .nil => rfl
  | _, _, .cons _ _ h => by rw [List.length_cons, List.length_cons, strs_len h]
theorem take_next {i j : Nat} {k : Int} (hj : j < (rowData i).length) (hno : ∀ p ∈ (rowData i).take j, hit i k p = false) (hy : hit i k (rowData i)[j] = false) : ∀ p ∈ (rowData i).take (j + 1), hit i k p = false := by
  intro p hp
  rw [List.take_add_one, List.getElem?_eq_getElem hj] at hp
  rcases List.mem_append.mp hp with hp | hp
  · exact hno p hp
  · simp at hp
    rw [hp]; exact hy

theorem filemode_spec {w : World} {A : Around} {E : Value → Shared → Prop} {s : Shared} {base : Heap} {mean : ExcName → Option Value} {mg mb : Str → Option Value}
  {Q : Value → Shared → Prop} {k : Int} {t : Tok}
  (X : (heap_39 w.params).In base) (T : Tp mean mg mb base) (st : base.StaysIn s.heap)
  (hH : A.handled = none) (hA : A.depth + 60 < recursionLimit) (hU : A.units + 90 < cLine)
  (hk0 : 0 ≤ k) (hk1 : k < 2 ^ 20)
  (h : ∀ h' tk' t', s.heap.StaysIn h' → Q (.str (Txt.join (Str.ofString "") ((List.range 10).map fun i => pick i k)) t') {s with heap := h', toks := tk'}) :
   wpAny (model P w) A (call (.ref 103) [.int k t]) Q E s := by
  refine' enter0 (binds := [(Str.ofString "mode", .int k t)]) X T st ?k6 ?k7 ?k8 ?k9 ?kB ?_ ?c2 ?c3 ?c4 ?c5; (case k6 => k_is); (case k7 => k_is); (case k8 => omega); (case k9 => exact BindsTo.of_eq rfl); (case c5 => decide); (case kB => exact locs rfl); (case c2 => exact rfl); (case c3 => exact rfl); (case c4 => exact rfl)
  intro L' h₁ F N Xg Tg
  (try dsimp only)
  (try k_fold)
  walk_at "go"
  refine for_start ?_
  walk_at "go"
  rename_i pa _ _ _ F N
  refine for_enum (n := 0) (vs := (List.range 10).map fun i => Value.ref (rowAddr i)) (by exact hH) (FMInv pa k t) (table_at Xg) F N ⟨[], 0, rfl, .nil, rfl, rfl, trivial⟩ ?_ ?_
  · rintro i v u m news e it oe oi TT h2 tk2 hi hv ⟨vs, n, rfl, hvs, hm⟩ hoff F2 N2 hT
    have hi10 : i < 10 := by simpa using hi
    have hv' : v = .ref (rowAddr i) := by
      rw [List.getElem?_map, List.getElem?_range hi10] at hv
      exact (Option.some.inj hv).symm
    subst hv'
    replace F2 := Fr.pins F2 hm
    refine unpack2 (by exact hH) hT F2 N2 fun h3 F3 N3 => ?_
    walk_at "go"
    refine for_start ?_
    walk_at "go"
    rename_i F4 N4
    have hoff' : ∀ {o'' : Obj}, ∀ p ∈ [(pa, o'')], p.1 ≠ e ∧ p.1 ≠ it := fun p hp => by rw [List.mem_singleton.mp hp]; exact hoff (pa, listOf vs.toArray n) (.head _)
    have hvl : vs.length = i := by rw [strs_len hvs]; simp
    have U5 : ∀ (_h : Heap) {c : Value}, Upd pa (listOf vs.toArray n) (listOf (vs ++ [c]).toArray (n + 1)) [(e, oe), (it, oi), (pa, listOf vs.toArray n)] [(e, oe), (it, oi), (pa, listOf (vs ++ [c]).toArray (n + 1))] := fun _ _ =>
      .tail (Ne.symm (hoff (pa, _) (.head _)).1) (.tail (Ne.symm (hoff (pa, _) (.head _)).2) (.head fun _ hp => nomatch hp))
    obtain ⟨rs, rn, hta, hrl, hrs⟩ := rows_at Xg i hi10
    refine for_tuple (vs := rs.map Value.ref) (by exact hH) (FMRow [(e, oe), (it, oi)] pa (rowAddr i) k t u i vs n) ⟨_, F4.keep _ _ hta, rfl, rn, rfl⟩ (.inl ⟨_, hta⟩) F4 N4 ⟨rfl, ⟨rfl, rfl, rfl, rfl, trivial⟩, by simp⟩ ?_ ?_ TgtOk.tup
    · rintro j v m5 news5 I o h5 tk5 hj hv5 ⟨rfl, hm5, hno⟩ hoff5 F5 N5
      have hj' : j < (rowData i).length := by rw [← hrl]; simpa using hj
      have hjr : j < rs.length := by rw [hrl]; exact hj'
      have hv6 : v = .ref rs[j] := by
        rw [List.getElem?_map, List.getElem?_eq_getElem hjr] at hv5
        exact (Option.some.inj hv5).symm
      subst hv6
      obtain ⟨tb, tc, hpair⟩ := hrs j rs[j] ((rowData i)[j]).1 ((rowData i)[j]).2 (List.getElem?_eq_getElem hjr) (List.getElem?_eq_getElem hj')
      replace F5 := Fr.pins F5 hm5
      refine unpack2 (by exact hH) (hpair.at fun o e => F5.keep _ _ e) F5 N5 fun h6 F6 N6 => ?_
      walk_at "go"
      · rename_i F7 N7 _ hi0
        have hi0' : i = 0 := by omega
        dsimp only [List.cons_append, List.nil_append] at N7
        refine ifmt_spec Xg Tg F7.keep (by simp only [depth_deeper]; omega) (by simp only [Around.deeper_units]; omega) hk0 hk1 ?_
        intro h7' tk7' t7' hst
        replace F7 := fr_ext F7 hst
        replace N7 := news_ext N7 hst
        walk_at "go"
        · rename_i heq
          have hy : hit i k (rowData i)[j] = true := by
            unfold hit
            rw [if_pos hi0']
            exact beq_iff_eq.mpr heq
          have U : ∀ c, Upd pa (listOf vs.toArray n) (listOf (vs ++ [c]).toArray (n + 1)) [(I, o), (e, oe), (it, oi), (pa, listOf vs.toArray n)] [(I, o), (e, oe), (it, oi), (pa, listOf (vs ++ [c]).toArray (n + 1))] := fun c =>
            .tail (Ne.symm (hoff5 (pa, listOf vs.toArray n) (by simp))) (.tail (Ne.symm (hoff (pa, _) (.head _)).1) (.tail (Ne.symm (hoff (pa, _) (.head _)).2) (.head fun _ hp => nomatch hp)))
          refine app_last F7 N7 (U _) (by rw [hvl]; omega) ?_
          intro h8 F8 N8
          walk_at "go"
          dsimp only [ForP]
          walk_at "go"
          dsimp only [EnumP]
          exact ⟨h8, _, _, [(pa, _)], rfl, F8, fun p hp => N8 p (.tail _ hp), hoff', _, _, rfl, strs_next hvs (pick_hit hj' hno hy), rfl, rfl, trivial⟩
        · rename_i heq
          have hy : hit i k (rowData i)[j] = false := by
            unfold hit
            rw [if_pos hi0']
            exact beq_eq_false_iff_ne.mpr heq
          dsimp only [ForP]
          exact ⟨_, _, _, _, rfl, F7, N7, hoff5, rfl, ⟨rfl, rfl, rfl, rfl, trivial⟩, take_next hj' hno hy⟩
      · rename_i F7 N7 _ hi0 _ heq
        have hi0' : i ≠ 0 := by omega
        dsimp only [List.cons_append, List.nil_append] at N7
        have hy : hit i k (rowData i)[j] = true := by
          unfold hit
          rw [if_neg hi0']
          exact beq_iff_eq.mpr heq
        have U : ∀ c, Upd pa (listOf vs.toArray n) (listOf (vs ++ [c]).toArray (n + 1)) [(I, o), (e, oe), (it, oi), (pa, listOf vs.toArray n)] [(I, o), (e, oe), (it, oi), (pa, listOf (vs ++ [c]).toArray (n + 1))] := fun c =>
          .tail (Ne.symm (hoff5 (pa, listOf vs.toArray n) (by simp))) (.tail (Ne.symm (hoff (pa, _) (.head _)).1) (.tail (Ne.symm (hoff (pa, _) (.head _)).2) (.head fun _ hp => nomatch hp)))
        refine app_last F7 N7 (U _) (by rw [hvl]; omega) ?_
        intro h8 F8 N8
        walk_at "go"
        dsimp only [ForP]
        walk_at "go"
        dsimp only [EnumP]
        exact ⟨h8, _, _, [(pa, _)], rfl, F8, fun p hp => N8 p (.tail _ hp), hoff', _, _, rfl, strs_next hvs (pick_hit hj' hno hy), rfl, rfl, trivial⟩
      · rename_i F7 N7 _ hi0 _ heq
        have hi0' : i ≠ 0 := by omega
        dsimp only [List.cons_append, List.nil_append] at N7
        have hy : hit i k (rowData i)[j] = false := by
          unfold hit
          rw [if_neg hi0']
          exact beq_eq_false_iff_ne.mpr heq
        dsimp only [ForP]
        exact ⟨_, _, _, _, rfl, F7, N7, hoff5, rfl, ⟨rfl, rfl, rfl, rfl, trivial⟩, take_next hj' hno hy⟩
    · rintro m5 news5 h5 tk5 ⟨rfl, hm5, hno⟩ F5 N5
      replace F5 := Fr.pins F5 hm5
      dsimp only [List.cons_append, List.nil_append] at N5
      have hno' : ∀ p ∈ rowData i, hit i k p = false := by
        intro p hp
        refine hno p ?_
        rw [List.length_map, hrl, List.take_length]
        exact hp
      walk_at "go"
      · rename_i hi0
        have hi0' : i = 0 := by omega
        refine app_last F5 N5 (U5 h5) (by rw [hvl]; omega) ?_
        intro h8 F8 N8
        walk_at "go"
        dsimp only [EnumP]
        exact ⟨h8, _, _, [(pa, _)], rfl, F8, N8, hoff', _, _, rfl, strs_next hvs (by rw [pick_none hno', if_pos hi0']), rfl, rfl, trivial⟩
      · rename_i hi0
        have hi0' : i ≠ 0 := by omega
        refine app_last F5 N5 (U5 h5) (by rw [hvl]; omega) ?_
        intro h8 F8 N8
        walk_at "go"
        dsimp only [EnumP]
        exact ⟨h8, _, _, [(pa, _)], rfl, F8, N8, hoff', _, _, rfl, strs_next hvs (by rw [pick_none hno', if_neg hi0']), rfl, rfl, trivial⟩
  · rintro m news h2 tk2 ⟨vs, n, rfl, hvs, hm⟩ F2 N2
    replace F2 := Fr.pins F2 hm
    rw [List.length_map, List.length_range] at hvs
    walk_at "go"
    refine join_listW (items := vs.toArray) (ys := (List.range 10).map fun i => pick i k) ⟨_, News.get N2 (.head _), rfl, n, rfl⟩ hvs (by decide) (pick_weight k) ?_
    intro t9 tk9
    walk_at "go"
    exact h _ _ _ F2.keep
end Mine
end

-- part Rules6
section
open PySem PySem.W PySem.Calls PyProof.Rows Mine.hd
set_option Elab.async false
set_option maxRecDepth 100000
namespace Mine
section
variable {w : World} {A : Around} {E : Value → Shared → Prop} {s : Shared} {g : Heap} {L : Addr} {m : Str → Option Value} {news : List (Addr × Obj)} {env : Env}
noncomputable abbrev tupOf (us : List Value) : Obj := { cls := .type "tuple", data := .seq us.toArray }

theorem new_tup {us : List Value} {Q : Value → Shared → Prop} (F : Fr g L s.heap m) (N : News g L s.heap news) (hz : us.length < 2 ^ 20)
    (h : ∀ h' a, Fr g L h' m → News g L h' ((a, tupOf us) :: news) → (∀ p ∈ news, p.1 ≠ a) → (∀ b o, s.heap.get? b = some o → h'.get? b = some o) → Q (.ref a) { s with heap := h' }) :
    wpAny (model P w) A (newTuple us) Q E s :=
  wpAny_newObj_type (h _ _ (F.push _) (N.push F _) (off_of N) fun _ _ e => Heap.get?_push_of_some _ e) (by show us.toArray.size ≤ sizeLine; rw [List.size_toArray, sizeLine_eq]; omega)
theorem new_lst {us : List Value} {Q : Value → Shared → Prop} (F : Fr g L s.heap m) (N : News g L s.heap news) (hz : us.length < 2 ^ 20)
    (h : ∀ h' a, Fr g L h' m → News g L h' ((a, listOf us.toArray 0) :: news) → (∀ p ∈ news, p.1 ≠ a) → (∀ b o, s.heap.get? b = some o → h'.get? b = some o) → Q (.ref a) { s with heap := h' }) :
    wpAny (model P w) A (newList us) Q E s :=
  wpAny_newObj_type (h _ _ (F.push _) (N.push F _) (off_of N) fun _ _ e => Heap.get?_push_of_some _ e) (by show us.toArray.size ≤ sizeLine; rw [List.size_toArray, sizeLine_eq]; omega)
end
end Mine
end

-- part LR
section
open PySem PySem.W PySem.Calls PyProof.Rows Mine.hd
set_option Elab.async false
set_option maxRecDepth 100000
set_option maxHeartbeats 8000000
namespace Mine

theorem fill_LR : ∀ (w : World) (h : Heap), (heap_39 w.params).In h → PySem.Challenge.rw_op0076_01 = PySem.Challenge.rw_op0076_01 := by
  k_fill
  intros
  rfl
local macro_rules | `(tactic| walk_at "go") => `(tactic| repeat' (first
  | (k_unfold; (try dsimp only))
  | ((fail_if_success (with_reducible first
      | show wpAny _ _ (exec (Stmt.While _ _ _ _) _) _ _ _
      | show wpAny _ _ (exec (Stmt.For _ _ _ _ _) _) _ _ _
      | show wpAny _ _ (pyIter _) _ _ _
      | show wpAny _ _ (assign (Expr.Tuple _ _ _) _ _) _ _ _
      | show wpAny _ _ (call (Value.type "enumerate") _ _) _ _ _
      | show wpAny _ _ (call (Value.builtin "str.join") _ _) _ _ _
      | show wpAny _ _ (call (Value.ref _) _ _) _ _ _
      | show wpAny _ _ (subscriptTail _ _ (Value.ref _) (Value.int _ _)) _ _ _
      | show wpAny _ _ (newTuple _) _ _ _
      | show wpAny _ _ (newList _) _ _ _
      | show wpAny _ _ (setItem (Value.ref _) _ _) _ _ _
      | show wpAny _ _ (compareOp _ (Value.ref _) _) _ _ _
      | show wpAny _ _ (truthy (Value.ref _)) _ _ _
      | show wpAny _ _ (call (Value.builtin "list.pop") _ _) _ _ _
      | show wpAny _ _ (call (Value.builtin "list.append") _ _) _ _ _
      | show wpAny _ _ (call (Value.type "reversed") _ _) _ _ _
      | show wpAny _ _ (call (Value.type "range") _ _) _ _ _
      | show wpAny _ _ (call (Value.builtin "len") _ _) _ _ _)); (first | ((try dsimp only); walk1) | walk1))))
structure Row where
  a : Addr
  md : Int
  ah : Int
  bh : Int
  t1 : Tok
  t2 : Tok
  t3 : Tok

noncomputable def Row.val (r : Row) : Value := .ref r.a
noncomputable def Row.obj (r : Row) : Obj := { cls := .type "tuple", data := .seq #[.int r.md r.t1, .int r.ah r.t2, .int r.bh r.t3] }
noncomputable def Row.dat (r : Row) : Int × Int × Int := (r.md, r.ah, r.bh)
noncomputable def rowOf (x : Int) : Int × Int × Int := ((x.fdiv 16).fmod 16 * 4096 + (x.fdiv 256).fmod 4096 + (x.fdiv 1048576).fmod 4 * 65536, x.fmod 4, (x.fdiv 4).fmod 4)
noncomputable def rowsOf (ns : List Int) : List (Int × Int × Int) := [(16877, 2, 0), (16877, 1, 3), (35273, 0, 1)] ++ (ns.take 8).map rowOf

noncomputable def Row.ent (r : Row) : Addr × Obj := (r.a, r.obj)
noncomputable def LRInv (D rl : Addr) (oD : Obj) (ns : List Int) (i : Nat) (m : Str → Option Value) (news : List (Addr × Obj)) : Prop :=
  ∃ rs n, news = (D, oD) :: (rl, listOf (List.map Row.val rs).toArray n) :: rs.map Row.ent ∧ (∀ r ∈ rs, r.a ≠ rl ∧ r.a ≠ D) ∧ D ≠ rl ∧
    rs.map Row.dat = [(16877, 2, 0), (16877, 1, 3), (35273, 0, 1)] ++ ((ns.take 8).take i).map rowOf ∧ Pinned m [(Str.ofString "rows", .ref rl)]

theorem News.row {g h : Heap} {L a : Addr} {md ah bh : Int} {t1 t2 t3 : Tok} {rest : List (Addr × Obj)} (N : News g L h ((a, tupOf [.int md t1, .int ah t2, .int bh t3]) :: rest)) :
    ∃ r : Row, r.a = a ∧ r.dat = (md, ah, bh) ∧ News g L h (r.ent :: rest) := ⟨⟨a, md, ah, bh, t1, t2, t3⟩, rfl, rfl, N⟩

theorem take_snoc {α : Type} {l : List α} {i : Nat} (h : i < l.length) : l.take (i + 1) = l.take i ++ [l[i]] := by
  rw [List.take_add_one, List.getElem?_eq_getElem h]; rfl

theorem lawrows_spec {w : World} {A : Around} {E : Value → Shared → Prop} {s : Shared} {base : Heap} {mean : ExcName → Option Value} {mg mb : Str → Option Value}
  {Q : Value → Shared → Prop} {l : Addr} {vs : List Value} {ns : List Int}
  (X : (heap_39 w.params).In base) (T : Tp mean mg mb base) (st : base.StaysIn s.heap)
  (hl : s.heap.IsList l vs.toArray) (hI : IntsAre vs ns) (hlen : ns.length ≤ 63)
  (hH : A.handled = none) (hA : A.depth + 60 < recursionLimit) (hU : A.units + 90 < cLine)
  (h : ∀ h' tk' rl rs n, s.heap.StaysIn h' → s.heap.get? rl = none → h'.get? rl = some (listOf (List.map Row.val rs).toArray n) → (∀ r ∈ rs, h'.get? r.a = some r.obj ∧ s.heap.get? r.a = none ∧ r.a ≠ rl) → rs.map Row.dat = rowsOf ns → Q (.ref rl) {s with heap := h', toks := tk'}) :
   wpAny (model P w) A (call (.ref 110) [.ref l]) Q E s := by
  refine' enter0 (binds := [(Str.ofString "script", .ref l)]) X T st ?k6 ?k7 ?k8 ?k9 ?kB ?_ ?c2 ?c3 ?c4 ?c5; (case k6 => k_is); (case k7 => k_is); (case k8 => omega); (case k9 => exact BindsTo.of_eq rfl); (case c5 => decide); (case kB => exact locs rfl); (case c2 => exact rfl); (case c3 => exact rfl); (case c4 => exact rfl)
  intro L' h₁ F N Xg Tg
  (try dsimp only)
  (try k_fold)
  walk_at "go"
  refine new_tup F N (by simp) ?_
  intro h2 a1 F2 N2 _ _
  obtain ⟨r1, rfl, hd1, N2⟩ := News.row N2
  walk_at "go"
  refine new_tup F2 N2 (by simp) ?_
  intro h3 a2 F3 N3 _ _
  obtain ⟨r2, rfl, hd2, N3⟩ := News.row N3
  walk_at "go"
  refine new_tup F3 N3 (by simp) ?_
  intro h4 a3 F4 N4 _ _
  obtain ⟨r3, rfl, hd3, N4⟩ := News.row N4
  walk_at "go"
  refine new_lst F4 N4 (by simp) ?_
  intro h5 rl F5 N5 hd5 _
  walk_at "go"
  refine for_start ?_
  walk_at "go"
  rename_i D ws _ F6 N6 hI6 hC6 _ hlt6
  have hwl := hI6.length
  have hlt6' : rl < D ∧ r3.a < D ∧ r2.a < D ∧ r1.a < D := hlt6
  refine for_list (vs := ws) (by exact hH) (LRInv D rl (listOf ws.toArray 0) ns) ⟨_, News.get N6 (.head _), rfl, 0, rfl⟩ (.inr ⟨listOf ws.toArray 0, ?_⟩) F6 (news₀ := (D, listOf ws.toArray 0) :: (rl, listOf (List.map Row.val [r1, r2, r3]).toArray 0) :: List.map Row.ent [r1, r2, r3])
     ?_ ⟨_, 0, rfl, ?_, ?_, ?_, rfl, trivial⟩ ?_ ?_ TgtOk.name
  · rintro i m news ⟨rs, n, rfl, _⟩
    exact .head _
  · intro p hp
    apply N6 p
    simp only [List.map_cons, List.map_nil, List.mem_cons] at hp ⊢
    rcases hp with h | h | h | h | h | h
    · exact .inl h
    · exact .inr (.inl h)
    · exact .inr (.inr (.inr (.inr (.inl h))))
    · exact .inr (.inr (.inr (.inl h)))
    · exact .inr (.inr (.inl h))
    · exact absurd h (List.not_mem_nil)
  · intro r hr
    simp only [List.mem_cons] at hr
    rcases hr with rfl | rfl | rfl | h
    · exact ⟨hd5 r.ent (.tail _ (.tail _ (.head _))), Nat.ne_of_lt hlt6'.2.2.2⟩
    · exact ⟨hd5 r.ent (.tail _ (.head _)), Nat.ne_of_lt hlt6'.2.2.1⟩
    · exact ⟨hd5 r.ent (.head _), Nat.ne_of_lt hlt6'.2.1⟩
    · exact absurd h (List.not_mem_nil)
  · exact Nat.ne_of_gt hlt6'.1
  · simp [hd1, hd2, hd3]
  · rintro i v m news I o h7 tk7 hi hv ⟨rs, n, rfl, hne, hDr, hdat, hm⟩ hoff F7 N7
    have hi' : i < (List.take 8 ns).length := by rw [← hwl]; exact hi
    obtain ⟨t, hx⟩ := hI6.get i (List.take 8 ns)[i] (List.getElem?_eq_getElem hi')
    rw [hx] at hv
    obtain rfl := Option.some.inj hv
    generalize hxe : (List.take 8 ns)[i] = x
    replace F7 := Fr.pins F7 hm
    walk_at "go"
    rename_i F8 N8
    refine new_tup F8 N8 (by simp) ?_
    intro h9 a9 F9 N9 hd9 _
    obtain ⟨r9, rfl, hdr9, N9⟩ := News.row N9
    walk_at "go"
    have hrl : ∀ p ∈ List.map Row.ent rs, p.1 ≠ rl := fun p hp => by
      obtain ⟨r, hr, rfl⟩ := List.mem_map.mp hp
      exact (hne r hr).1
    have hlen9 : rs.length < 2 ^ 10 := by
      have e := congrArg List.length hdat
      simp at e
      omega
    have U9 : Upd rl (listOf (List.map Row.val rs).toArray n) (listOf (List.map Row.val rs ++ [Value.ref r9.a]).toArray (n + 1)) (r9.ent :: (I, o) :: (D, listOf ws.toArray 0) :: (rl, listOf (List.map Row.val rs).toArray n) :: List.map Row.ent rs) (r9.ent :: (I, o) :: (D, listOf ws.toArray 0) :: (rl, listOf (List.map Row.val rs ++ [Value.ref r9.a]).toArray (n + 1)) :: List.map Row.ent rs) :=
      .tail (Ne.symm (hd9 (rl, listOf (List.map Row.val rs).toArray n) (.tail _ (.tail _ (.head _))))) (.tail (Ne.symm (hoff (rl, listOf (List.map Row.val rs).toArray n) (.tail _ (.head _)))) (.tail hDr (.head hrl)))
    refine app_last F9 N9 U9 (by rw [List.length_map]; omega) ?_
    intro h10 F10 N10
    walk_at "go"
    dsimp only [ForP]
    refine ⟨_, _, _, (D, listOf ws.toArray 0) :: (rl, listOf (List.map Row.val (rs ++ [r9])).toArray (n + 1)) :: (rs ++ [r9]).map Row.ent, rfl, F10, ?_, ?_, rs ++ [r9], n + 1, rfl, ?_, hDr, ?_, rfl, trivial⟩
    · intro p hp
      apply N10 p
      rw [List.map_append, List.map_append, List.map_cons, List.map_nil, List.map_cons, List.map_nil] at hp
      simp only [List.mem_cons, List.mem_append, List.not_mem_nil, or_false] at hp ⊢
      rcases hp with h | h | h | h | h
      · exact .inr (.inl h)
      · exact .inr (.inr (.inl h))
      · exact .inr (.inr (.inr (.inl h)))
      · exact .inr (.inr (.inr (.inr h)))
      · exact .inl h
    · intro p hp
      simp only [List.mem_cons, List.map_append, List.map_cons, List.map_nil, List.mem_append, List.not_mem_nil, or_false] at hp
      rcases hp with h | h | h | h
      · rw [h]; exact hoff (D, listOf ws.toArray 0) (.head _)
      · rw [h]; exact hoff (rl, listOf (List.map Row.val rs).toArray n) (.tail _ (.head _))
      · exact hoff p (.tail _ (.tail _ h))
      · rw [h]; exact Ne.symm (hd9 (I, o) (.head _))
    · intro r hr
      rcases List.mem_append.mp hr with h | h
      · exact hne r h
      · rw [List.mem_singleton.mp h]
        exact ⟨Ne.symm (hd9 (rl, listOf (List.map Row.val rs).toArray n) (.tail _ (.tail _ (.head _)))), Ne.symm (hd9 (D, listOf ws.toArray 0) (.tail _ (.head _)))⟩
    · rw [List.map_append, hdat, List.map_cons, List.map_nil, hdr9, take_snoc hi', hxe]
      simp [rowOf]
  · rintro m news h7 tk7 ⟨rs, n, rfl, hne, hDr, hdat, hm⟩ F7 N7
    replace F7 := Fr.pins F7 hm
    walk_at "go"
    rw [hwl, List.take_length] at hdat
    refine h _ _ rl rs n F7.keep (News.fresh N7 (.tail _ (.head _))) (News.get N7 (.tail _ (.head _))) (fun r hr => ?_) hdat
    have hm' : r.ent ∈ List.map Row.ent rs := List.mem_map_of_mem hr
    exact ⟨(N7 r.ent (.tail _ (.tail _ hm'))).1, (N7 r.ent (.tail _ (.tail _ hm'))).2.2, (hne r hr).1⟩
end Mine
end

-- part LS
section
open PySem PySem.W PySem.Calls PyProof.Rows Mine.hd
set_option Elab.async false
set_option maxRecDepth 100000
set_option maxHeartbeats 8000000
namespace Mine

theorem fill_LS : ∀ (w : World) (h : Heap), (heap_39 w.params).In h → PySem.Challenge.rw_op0076_01 = PySem.Challenge.rw_op0076_01 := by
  k_fill
  intros
  rfl
local macro_rules | `(tactic| walk_at "go") => `(tactic| repeat' (first
  | (k_unfold; (try dsimp only))
  | ((fail_if_success (with_reducible first
      | show wpAny _ _ (exec (Stmt.While _ _ _ _) _) _ _ _
      | show wpAny _ _ (exec (Stmt.For _ _ _ _ _) _) _ _ _
      | show wpAny _ _ (pyIter _) _ _ _
      | show wpAny _ _ (assign (Expr.Tuple _ _ _) _ _) _ _ _
      | show wpAny _ _ (call (Value.type "enumerate") _ _) _ _ _
      | show wpAny _ _ (call (Value.builtin "str.join") _ _) _ _ _
      | show wpAny _ _ (call (Value.ref _) _ _) _ _ _
      | show wpAny _ _ (subscriptTail _ _ (Value.ref _) (Value.int _ _)) _ _ _
      | show wpAny _ _ (newTuple _) _ _ _
      | show wpAny _ _ (subscriptTail _ _ (Value.str _ _) (Value.int _ _)) _ _ _
      | show wpAny _ _ (newList _) _ _ _
      | show wpAny _ _ (setItem (Value.ref _) _ _) _ _ _
      | show wpAny _ _ (compareOp _ (Value.ref _) _) _ _ _
      | show wpAny _ _ (truthy (Value.ref _)) _ _ _
      | show wpAny _ _ (call (Value.builtin "list.pop") _ _) _ _ _
      | show wpAny _ _ (call (Value.builtin "list.append") _ _) _ _ _
      | show wpAny _ _ (call (Value.type "reversed") _ _) _ _ _
      | show wpAny _ _ (call (Value.type "range") _ _) _ _ _
      | show wpAny _ _ (call (Value.builtin "len") _ _) _ _ _)); (first | ((try dsimp only); walk1) | walk1))))
noncomputable def unitOf : Nat → Int | 0 => 64 | 1 => 8 | _ => 1
noncomputable def highOf : Nat → Int | 0 => 2048 | 1 => 1024 | _ => 512
noncomputable def endsOf : Nat → Str | 0 => Str.ofString "-xSs" | 1 => Str.ofString "-xSs" | _ => Str.ofString "-xTt"
noncomputable def figOf (i : Nat) (k : Int) : Int := (k.fdiv (unitOf i)).fmod 8
noncomputable def sgnStep (i : Nat) (k : Int) (x : Str) : Str :=
  ((x ++ (if 4 ≤ figOf i k then Str.ofString "r" else Str.ofString "-")) ++ (if 2 ≤ (figOf i k).fmod 4 then Str.ofString "w" else Str.ofString "-")) ++ Txt.item (endsOf i) ((figOf i k).fmod 2 + (k.fdiv (highOf i)).fmod 2 * 2)
noncomputable def sgn : Nat → Int → Str
  | 0, k => Txt.item (Str.ofString "?pc?d?b?-?l?s???") ((k.fdiv 4096).fmod 16)
  | i + 1, k => sgnStep i k (sgn i k)

noncomputable def LSInv (news₀ : List (Addr × Obj)) (k : Int) (t : Tok) (i : Nat) (m : Str → Option Value) (news : List (Addr × Obj)) : Prop :=
  news = news₀ ∧ (∃ t', Pinned m [(Str.ofString "mode", .int k t), (Str.ofString "text", .str (sgn i k) t')]) ∧ (sgn i k).length = 1 + 3 * i

theorem sgn_len : ∀ (i : Nat) (k : Int), (sgn i k).length = 1 + 3 * i
  | 0, k => rfl
  | i + 1, k => by
    show (sgnStep i k (sgn i k)).length = _
    unfold sgnStep
    rw [Str.length_append, Str.length_append, Str.length_append, sgn_len i k, len_item]
    have e1 : (if 4 ≤ figOf i k then Str.ofString "r" else Str.ofString "-").length = 1 := by split <;> decide
    have e2 : (if 2 ≤ (figOf i k).fmod 4 then Str.ofString "w" else Str.ofString "-").length = 1 := by split <;> decide
    rw [e1, e2]
    omega

theorem lawsigns_spec {w : World} {A : Around} {E : Value → Shared → Prop} {s : Shared} {base : Heap} {mean : ExcName → Option Value} {mg mb : Str → Option Value}
  {Q : Value → Shared → Prop} {k : Int} {t : Tok}
  (X : (heap_39 w.params).In base) (T : Tp mean mg mb base) (st : base.StaysIn s.heap)
  (hH : A.handled = none) (hA : A.depth + 60 < recursionLimit) (hU : A.units + 90 < cLine)
  (hk0 : 0 ≤ k) (hk1 : k < 2 ^ 20)
  (h : ∀ h' tk' t', s.heap.StaysIn h' → Q (.str (sgn 3 k) t') {s with heap := h', toks := tk'}) :
   wpAny (model P w) A (call (.ref 117) [.int k t]) Q E s := by
  refine' enter0 (binds := [(Str.ofString "mode", .int k t)]) X T st ?k6 ?k7 ?k8 ?k9 ?kB ?_ ?c2 ?c3 ?c4 ?c5; (case k6 => k_is); (case k7 => k_is); (case k8 => omega); (case k9 => exact BindsTo.of_eq rfl); (case c5 => decide); (case kB => exact locs rfl); (case c2 => exact rfl); (case c3 => exact rfl); (case c4 => exact rfl)
  intro L' h₁ F N Xg Tg
  (try dsimp only)
  (try k_fold)
  walk_at "go"
  refine KXi.item (n := 16) rfl (Int.le_trans (by decide) (fmod_lo _ (by decide))) (fmod_hi _ (by decide)) (by decide) ?_
  intro hlen1
  walk_at "go"
  rename_i F1 N1
  refine for_start ?_
  walk_at "go"
  refine new_tup F1 N1 (by simp) ?_
  intro h2 a1 F2 N2 _ _
  walk_at "go"
  refine new_tup F2 N2 (by simp) ?_
  intro h3 a2 F3 N3 hd3 _
  walk_at "go"
  refine new_tup F3 N3 (by simp) ?_
  intro h4 a3 F4 N4 hd4 _
  walk_at "go"
  refine new_lst F4 N4 (by simp) ?_
  intro h5 dl F5 N5 hd5 _
  walk_at "go"
  refine for_list (vs := [.ref a1, .ref a2, .ref a3]) (by exact hH) (LSInv _ k t) ⟨_, News.get N5 (.head _), rfl, 0, rfl⟩ (.inr ⟨listOf [.ref a1, .ref a2, .ref a3].toArray 0, ?_⟩) F5 N5 ⟨rfl, ⟨_, rfl, rfl, trivial⟩, hlen1⟩ ?_ ?_ TgtOk.tup
  · rintro i m news ⟨rfl, _⟩
    exact .head _
  · rintro i v m news I o h6 tk6 hi hv ⟨rfl, ⟨tt, hm⟩, hle⟩ hoff F6 N6
    replace F6 := Fr.pins F6 hm
    have hpair : ∃ T1 u1 u2 u3, v = .ref T1 ∧ h6.IsTuple T1 #[.int (unitOf i) u1, .int (highOf i) u2, .str (endsOf i) u3] := by
      match i, hi, hv with
      | 0, _, hv => cases hv; exact ⟨a1, _, _, _, rfl, _, News.get N6 (.tail _ (.tail _ (.tail _ (.tail _ (.head _))))), rfl, 0, rfl⟩
      | 1, _, hv => cases hv; exact ⟨a2, _, _, _, rfl, _, News.get N6 (.tail _ (.tail _ (.tail _ (.head _)))), rfl, 0, rfl⟩
      | 2, _, hv => cases hv; exact ⟨a3, _, _, _, rfl, _, News.get N6 (.tail _ (.tail _ (.head _))), rfl, 0, rfl⟩
      | i + 3, hi, _ => exact absurd hi (by simp)
    obtain ⟨T1, u1, u2, u3, rfl, hT1⟩ := hpair
    have hi3 : i < 3 := by simpa using hi
    have hun : 1 ≤ unitOf i ∧ unitOf i ≤ 64 := by
      match i with
      | 0 | 1 => decide
      | i + 2 => exact (by decide : (1 : Int) ≤ 1 ∧ (1 : Int) ≤ 64)
    have hhi : 1 ≤ highOf i ∧ highOf i ≤ 2048 := by
      match i with
      | 0 | 1 => decide
      | i + 2 => exact (by decide : (1 : Int) ≤ 512 ∧ (512 : Int) ≤ 2048)
    have hen : (endsOf i).length = 4 := by
      match i with
      | 0 | 1 => decide
      | i + 2 => exact (by decide : (Str.ofString "-xTt").length = 4)
    refine unpack3 (by exact hH) hT1 F6 N6 fun h7 F7 N7 => ?_
    obtain ⟨hun1, hun2⟩ := hun
    obtain ⟨hhi1, hhi2⟩ := hhi
    generalize hune : unitOf i = un at *
    generalize hhie : highOf i = hg at *
    generalize hene : endsOf i = en at *
    have hb1 : 0 ≤ ((k.fdiv un).fmod 8).fmod 2 := fmod_lo _ (by decide)
    have hb2 : ((k.fdiv un).fmod 8).fmod 2 < 2 := fmod_hi _ (by decide)
    have hb3 : 0 ≤ (k.fdiv hg).fmod 2 := fmod_lo _ (by decide)
    have hb4 : (k.fdiv hg).fmod 2 < 2 := fmod_hi _ (by decide)
    walk_at "go"
    all_goals (refine KXi.item (n := 4) hen (by omega) (by omega) (by decide) ?_; intro hlen9)
    all_goals walk_at "go"
    all_goals
      rename Fr _ _ _ _ => F9
      rename News _ _ _ _ => N9
      dsimp only [ForP]
      refine ⟨_, _, _, _, rfl, F9, N9, hoff, rfl, ⟨_, rfl, congrArg (fun x => some (Value.str x _)) ?_, trivial⟩, sgn_len (i + 1) k⟩
      show _ = sgnStep i k (sgn i k)
      unfold sgnStep figOf
      rw [hune, hhie, hene]
      first
        | rw [if_pos (by omega), if_pos (by omega)]
        | rw [if_pos (by omega), if_neg (by omega)]
        | rw [if_neg (by omega), if_pos (by omega)]
        | rw [if_neg (by omega), if_neg (by omega)]
  · rintro m news h6 tk6 ⟨rfl, ⟨tt, hm⟩, hle⟩ F6 N6
    replace F6 := Fr.pins F6 hm
    walk_at "go"
    exact h _ _ _ F6.keep
end Mine
end

-- part Cmp
section
open PySem PySem.W PySem.Calls PyProof.Rows Mine.hd
set_option Elab.async false
set_option maxRecDepth 100000
namespace Mine
section
variable {w : World} {A : Around} {s : Shared} {g : Heap} {L : Addr} {m₀ : Str → Option Value} {news₀ : List (Addr × Obj)} {env : Env}

noncomputable abbrev testsOf (ifs : List PySem.Expr) (env : Env) : Sem Bool :=
  forIn ifs true fun c r => if r = true then do let ok ← isTrue c env (eval c env); pure (ForInStep.yield ok) else pure (ForInStep.yield r)

theorem compLoop_go {R : Result → Shared → Prop} {elt target iter : PySem.Expr} {ifs : List PySem.Expr} {scope : Scope} {pos : Pos} {it acc : Value} {env : Env} (I : Nat → Shared → Prop)
    (turn : ∀ n s, I n s → wpAny (model P w) A (pyNext it) (fun r s₁ => match r with
      | none => R (.ok .next) s₁
      | some v => wpAny (model P w) A (letOwnedTupleGo target it v) (fun _ s₁ => wpAny (model P w) A (assign target env v) (fun _ s₂ =>
          wpAny (model P w) A (testsOf ifs env) (fun ok s₃ =>
            if ok = true then wpAny (model P w) A (eval elt env) (fun x s₄ =>
              wpAny (model P w) A (call (.builtin "list.append") [acc, x]) (fun _ s₅ => ∃ m, m < n ∧ I m s₅) (fun _ _ => False) s₄) (fun _ _ => False) s₃
            else ∃ m, m < n ∧ I m s₃) (fun _ _ => False) s₂) (fun _ _ => False) s₁) (fun _ _ => False) s₁) (fun _ _ => False) s)
    (n : Nat) (h : I n s) :
    codeAny (model P w) A (.compLoop (.ListComp elt [⟨target, iter, ifs, 0⟩] scope pos) 0 it acc env) R s := by
  have never : ∀ e s', False → notedBy (model P w) A env (fun e s' => R (.error e) s') e s' := fun _ _ x => x.elim
  refine codeAny_loop rfl I (fun n s hI => ?_) n h
  show wpAny _ A ((compTurn (.ListComp elt [⟨target, iter, ifs, 0⟩] scope pos) 0 it acc env).onRaise (fun x => do noteFrame x env; theTreesLotGoes x)) _ _ s
  refine wpAny_noted ?_
  rw [compTurn_list]
  refine wpAny_bind (wpAny_standAt (wpAny_bind (wpAny_mono (turn n s hI) (fun r s₁ h₁ => ?_) never)))
  cases r with
  | none => exact wpAny_pure h₁
  | some v =>
    refine wpAny_bind (wpAny_mono h₁ (fun _ s₁ h₁ => ?_) never)
    refine wpAny_bind (wpAny_mono h₁ (fun _ s₂ h₂ => wpAny_bind (wpAny_mono h₂ (fun ok s₃ h₃ => ?_) never)) never)
    cases ok with
    | false => exact wpAny_pure ⟨rfl, h₃⟩
    | true =>
      exact wpAny_bind (wpAny_bind (wpAny_mono h₃ (fun x s₄ h₄ => wpAny_bind (wpAny_mono h₄ (fun _ s₅ h₅ => wpAny_pure (wpAny_pure ⟨rfl, h₅⟩)) never)) never))

noncomputable def CompP (g : Heap) (C I D L : Addr) (o oL : Obj) (acc : List Value) (n : Nat) (J : List (Addr × Obj) → Prop) (s s₄ : Shared) : Prop :=
  ∃ h tk mc news, s₄ = { s with heap := h, toks := tk } ∧ Fr g C h mc ∧ News g C h ((I, o) :: (D, listOf acc.toArray n) :: (L, oL) :: news) ∧ (∀ p ∈ news, p.1 ≠ I ∧ p.1 ≠ D ∧ p.1 ≠ L) ∧ J news

theorem comp_loop {R : Result → Shared → Prop} {elt target iter : PySem.Expr} {ifs : List PySem.Expr} {scope : Scope} {pos : Pos} {cenv : Env} {C I D ax : Addr} {oL : Obj} {vs : List Value} {mc₀ : Str → Option Value}
    (hh : A.handled = none) (J : Nat → List Value → List (Addr × Obj) → Prop) (hz : vs.length < 2 ^ 20)
    (hax : (∃ o, g.get? ax = some o) ∨ (∃ o, ∀ i acc news, J i acc news → (ax, o) ∈ news)) (hJ : ∀ i acc news, J i acc news → acc.length ≤ i)
    (hst : s.heap.IsListIter I ax 0) (hl : s.heap.IsList ax vs.toArray) (haxI : ax ≠ I)
    (F : Fr g C s.heap mc₀) (N : News g C s.heap ((D, listOf [].toArray 0) :: (L, oL) :: news₀)) (hI0 : g.get? I = none) (hIC : I ≠ C)
    (hID : I ≠ D) (hIL : I ≠ L) (hDL : D ≠ L) (hoff : ∀ p ∈ news₀, p.1 ≠ I ∧ p.1 ≠ D ∧ p.1 ≠ L) (h0 : J 0 [] news₀)
    (turn : ∀ i v acc n mc news o h tk, i < vs.length → vs[i]? = some v → J i acc news → (∀ p ∈ news, p.1 ≠ I ∧ p.1 ≠ D ∧ p.1 ≠ L) → Fr g C h mc → News g C h ((I, o) :: (D, listOf acc.toArray n) :: (L, oL) :: news) →
      wpAny (model P w) A (assign target cenv v) (fun _ s₂ => wpAny (model P w) A (testsOf ifs cenv) (fun ok s₃ =>
        if ok = true then wpAny (model P w) A (eval elt cenv) (fun y s₄ => CompP g C I D L o oL acc n (J (i + 1) (acc ++ [y])) s s₄) (fun _ _ => False) s₃
        else CompP g C I D L o oL acc n (J (i + 1) acc) s s₃) (fun _ _ => False) s₂) (fun _ _ => False) { s with heap := h, toks := tk })
    (done : ∀ acc n mc news h tk, J vs.length acc news → Fr g C h mc → News g C h ((D, listOf acc.toArray n) :: (L, oL) :: news) → (∀ p ∈ news, p.1 ≠ D ∧ p.1 ≠ L) → R (.ok .next) { s with heap := h, toks := tk })
    (ht : TgtOk target) :
    codeAny (model P w) A (.compLoop (.ListComp elt [⟨target, iter, ifs, 0⟩] scope pos) 0 (.ref I) (.ref D) cenv) R s := by
  have W := Walks.list (prog := P) (w := w) hh I ax haxI vs.toArray
  rw [List.size_toArray] at W
  refine compLoop_go (fun k s' => ∃ i h tk acc n mc news, s' = { s with heap := h, toks := tk } ∧ Fr g C h mc ∧ News g C h ((D, listOf acc.toArray n) :: (L, oL) :: news) ∧ (∀ p ∈ news, p.1 ≠ I ∧ p.1 ≠ D ∧ p.1 ≠ L) ∧ (h.IsListIter I ax i ∧ h.IsList ax vs.toArray) ∧ J i acc news ∧ i ≤ vs.length ∧ k = vs.length + 1 - i)
    ?_ (vs.length + 1) ⟨0, s.heap, s.toks, [], 0, mc₀, news₀, rfl, F, N, hoff, ⟨hst, hl⟩, h0, Nat.zero_le _, rfl⟩
  rintro k s' ⟨i, h, tk, acc, n, mc, news, rfl, F, N, hoff, hst, hJi, hi, rfl⟩
  have hoff' : ∀ p ∈ (D, listOf acc.toArray n) :: (L, oL) :: news, p.1 ≠ I := by
    intro p hp
    rcases List.mem_cons.mp hp with rfl | hp
    · exact Ne.symm hID
    · rcases List.mem_cons.mp hp with rfl | hp
      · exact Ne.symm hIL
      · exact (hoff p hp).1
  have moved : ∀ h' : Heap, (∀ b o, b ∉ [I] → h.get? b = some o → h'.get? b = some o) → Fr g C h' mc ∧ News g C h' ((D, listOf acc.toArray n) :: (L, oL) :: news) := by
    intro h' hk
    obtain ⟨oC, es, ep, hC, r⟩ := F.ns
    refine ⟨⟨⟨oC, es, ep, hk _ _ (by simpa using Ne.symm hIC) hC, r⟩, fun b o e => hk _ _ ?_ (F.keep b o e), F.above⟩, fun p hp => ⟨hk _ _ (by simpa using hoff' p hp) (N p hp).1, (N p hp).2⟩⟩
    intro q
    rw [List.mem_singleton.mp q, hI0] at e
    cases e
  by_cases hlt : i < vs.length
  · refine W.item i _ _ _ hlt hst fun v h₁ tk₁ hP hst₁ hk₁ => ?_
    obtain ⟨F₁, N₁⟩ := moved h₁ hk₁
    obtain ⟨o, ho, hoc, hod⟩ := hst₁.1
    have N₂ : News g C h₁ ((I, o) :: (D, listOf acc.toArray n) :: (L, oL) :: news) := fun p hp => by
      rcases List.mem_cons.mp hp with rfl | q
      · exact ⟨ho, hIC, hI0⟩
      · exact N₁ p q
    refine ht.go ho hoc hod (by decide) ?_
    -- what a turn leaves
    have fin : ∀ (acc' : List Value) (n' : Nat) (h₄ : Heap) (tk₄ : Nat) (m₄ : Str → Option Value) (news₄ : List (Addr × Obj)), Fr g C h₄ m₄ → News g C h₄ ((I, o) :: (D, listOf acc'.toArray n') :: (L, oL) :: news₄) → (∀ p ∈ news₄, p.1 ≠ I ∧ p.1 ≠ D ∧ p.1 ≠ L) → J (i + 1) acc' news₄ →
        ∃ k, k < vs.length + 1 - i ∧ ∃ i h tk acc n mc news, ({ s with heap := h₄, toks := tk₄ } : Shared) = { s with heap := h, toks := tk } ∧ Fr g C h mc ∧ News g C h ((D, listOf acc.toArray n) :: (L, oL) :: news) ∧ (∀ p ∈ news, p.1 ≠ I ∧ p.1 ≠ D ∧ p.1 ≠ L) ∧ (h.IsListIter I ax i ∧ h.IsList ax vs.toArray) ∧ J i acc news ∧ i ≤ vs.length ∧ k = vs.length + 1 - i := by
      intro acc' n' h₄ tk₄ m₄ news₄ F₄ N₄ hoff₄ hJ₄
      refine ⟨vs.length + 1 - (i + 1), by omega, i + 1, h₄, tk₄, acc', n', m₄, news₄, rfl, F₄, fun p hp => N₄ p (.tail _ hp), hoff₄, ?_, hJ₄, hlt, rfl⟩
      refine W.frame _ _ _ hst₁ fun b hb o' e => ?_
      rcases List.mem_cons.mp hb with rfl | hb
      · rw [ho] at e; cases e; exact (N₄ _ (.head _)).1
      · rw [List.mem_singleton.mp hb] at e ⊢
        rcases hax with ⟨ob, hob⟩ | ⟨ob, hob⟩
        · rw [F₁.keep _ _ hob] at e; cases e
          exact F₄.keep _ _ hob
        · rw [(N₁ _ (.tail _ (.tail _ (hob i acc news hJi)))).1] at e; cases e
          exact (N₄ _ (.tail _ (.tail _ (.tail _ (hob (i + 1) acc' news₄ hJ₄))))).1
    refine wpAny_mono (turn i v acc n mc news o h₁ tk₁ hlt (by simpa using hP) hJi hoff F₁ N₂) (fun _ s₂ h₂ => wpAny_mono h₂ (fun ok s₃ h₃ => ?_) fun _ _ x => x) fun _ _ x => x
    cases ok with
    | false =>
      simp only [Bool.false_eq_true, if_false] at h₃ ⊢
      obtain ⟨h₄, tk₄, m₄, news₄, rfl, F₄, N₄, hoff₄, hJ₄⟩ := h₃
      exact fin acc n h₄ tk₄ m₄ news₄ F₄ N₄ hoff₄ hJ₄
    | true =>
      simp only [if_true] at h₃ ⊢
      refine wpAny_mono h₃ (fun y s₄ h₄ => ?_) fun _ _ x => x
      obtain ⟨h₄, tk₄, m₄, news₄, rfl, F₄, N₄, hoff₄, hJ₄⟩ := h₄
      have ha := hJ _ _ _ hJi
      refine app_last F₄ N₄ (.tail hID (.head ?_)) (by omega) fun h₅ F₅ N₅ => ?_
      · intro p hp
        rcases List.mem_cons.mp hp with rfl | hp
        · exact Ne.symm hDL
        · exact (hoff₄ p hp).2.1
      · exact fin (acc ++ [y]) (n + 1) h₅ tk₄ m₄ news₄ F₅ N₅ hoff₄ hJ₄
  · have hin : i = vs.length := by omega
    refine W.done _ _ _ (hin ▸ hst) fun h₁ tk₁ hk₁ => ?_
    obtain ⟨F₁, N₁⟩ := moved h₁ hk₁
    exact done acc n mc news h₁ tk₁ (hin ▸ hJi) F₁ N₁ fun p hp => (hoff p hp).2
end
end Mine
end

-- part Cmp2
section
open PySem PySem.W PySem.Calls PyProof.Rows Mine.hd
set_option Elab.async false
set_option maxRecDepth 100000
namespace Mine
section
variable {w : World} {A : Around} {s : Shared} {g : Heap} {L : Addr} {m₀ : Str → Option Value} {news₀ : List (Addr × Obj)} {env : Env}

/-- the frame within the comprehension goes, the def's own comes back -/
theorem comp_back {C D L : Addr} {h h' : Heap} {oL oD : Obj} {mc m : Str → Option Value} {news : List (Addr × Obj)} (F : Fr g C h mc) (N : News g C h ((D, oD) :: (L, oL) :: news))
    (hns : ∀ k : Heap, k.get? L = some oL → k.Ns L m) (hab : g.objs.size ≤ L) (hC0 : g.get? C = none) (hD : D ≠ L) (hoff : ∀ p ∈ news, p.1 ≠ L) (hs : Heap.SameBut C h h') :
    Fr g L h' m ∧ News g L h' ((D, oD) :: news) := by
  have k : ∀ b o, b ≠ C → h.get? b = some o → h'.get? b = some o := fun b o n e => (hs.2 b n).trans e
  refine ⟨⟨hns h' (k _ _ (N _ (.tail _ (.head _))).2.1 (N _ (.tail _ (.head _))).1), fun b o e => k _ _ (fun z => by rw [z, hC0] at e; cases e) (F.keep b o e), hab⟩, fun p hp => ?_⟩
  rcases List.mem_cons.mp hp with rfl | hp
  · exact ⟨k _ _ (N _ (.head _)).2.1 (N _ (.head _)).1, hD, (N _ (.head _)).2.2⟩
  · exact ⟨k _ _ (N _ (.tail _ (.tail _ hp))).2.1 (N _ (.tail _ (.tail _ hp))).1, hoff p hp, (N _ (.tail _ (.tail _ hp))).2.2⟩

theorem same_off {C L : Addr} {h h' : Heap} {m : Str → Option Value} {news : List (Addr × Obj)} (F : Fr g L h m) (N : News g L h news) (hC0 : g.get? C = none) (hCL : C ≠ L) (hoff : ∀ p ∈ news, p.1 ≠ C) (hs : Heap.SameBut C h h') : Fr g L h' m ∧ News g L h' news := by
  have k : ∀ b o, b ≠ C → h.get? b = some o → h'.get? b = some o := fun b o n e => (hs.2 b n).trans e
  obtain ⟨oL, es, ep, hL, r⟩ := F.ns
  exact ⟨⟨⟨oL, es, ep, k _ _ (Ne.symm hCL) hL, r⟩, fun b o e => k _ _ (fun z => by rw [z, hC0] at e; cases e) (F.keep b o e), F.above⟩, fun p hp => ⟨k _ _ (hoff p hp) (N p hp).1, (N p hp).2⟩⟩

noncomputable def CompTurn (w : World) (A : Around) (s : Shared) (g : Heap) (L : Addr) (env : Env) (elt target : PySem.Expr) (ifs : List PySem.Expr) (scope : Scope) (cl : List (Str × Addr)) (vs : List Value) (J : Nat → List Value → List (Addr × Obj) → Prop) : Prop :=
  ∀ C I D oL i v acc n mc news o h tk, i < vs.length → vs[i]? = some v → J i acc news → (∀ p ∈ news, p.1 ≠ I ∧ p.1 ≠ D ∧ p.1 ≠ L) → Fr g C h mc → News g C h ((I, o) :: (D, listOf acc.toArray n) :: (L, oL) :: news) →
      wpAny (model P w) A (assign target (compEnvC scope cl C env) v) (fun _ s₂ => wpAny (model P w) A (testsOf ifs (compEnvC scope cl C env)) (fun ok s₃ =>
        if ok = true then wpAny (model P w) A (eval elt (compEnvC scope cl C env)) (fun y s₄ => CompP g C I D L o oL acc n (J (i + 1) (acc ++ [y])) s s₄) (fun _ _ => False) s₃
        else CompP g C I D L o oL acc n (J (i + 1) acc) s s₃) (fun _ _ => False) s₂) (fun _ _ => False) { s with heap := h, toks := tk }

theorem comp_start {elt target iter : PySem.Expr} {ifs : List PySem.Expr} {scope : Scope} {pos : Pos} {cl : List (Str × Addr)} {RR : Value → Addr → Result → Shared → Prop} {ax : Addr} {vs : List Value}
    (hh : A.handled = none) (hkind : scope.kind = .function) (hcell : ∀ y ∈ scope.names, y.2 ≠ .cell)
    (J : Nat → List Value → List (Addr × Obj) → Prop) (hz : vs.length < 2 ^ 20)
    (hax : (∃ o, g.get? ax = some o) ∨ (∃ o, ∀ i acc news, J i acc news → (ax, o) ∈ news)) (hJ : ∀ i acc news, J i acc news → acc.length ≤ i)
    (hl : s.heap.IsList ax vs.toArray) (F : Fr g L s.heap m₀) (N : News g L s.heap news₀) (h0 : J 0 [] news₀)
    (turn : CompTurn w A s g L env elt target ifs scope cl vs J)
    (done : ∀ C D acc n mc oL news h tk, J vs.length acc news → Fr g C h mc → News g C h ((D, listOf acc.toArray n) :: (L, oL) :: news) → (∀ p ∈ news, p.1 ≠ D ∧ p.1 ≠ L) → (∀ k : Heap, k.get? L = some oL → k.Ns L m₀) → g.get? C = none → D ≠ L → C ≠ L →
      RR (.ref D) C (.ok .next) { s with heap := h, toks := tk })
    (ht : TgtOk target) :
    wpAny (model P w) A (pyIter (.ref ax)) (fun it s₂ => wpAny (model P w) A (newList []) (fun acc s₃ =>
      wpAny (model P w) A (newFunctionEnv scope env.globals cl [] env.qual none .none (some env)) (fun cenv s₄ =>
        codeAny (model P w) A (.compStart (.ListComp elt [⟨target, iter, ifs, 0⟩] scope pos) 0 it acc { cenv with scope := relabel scope env }) (RR acc cenv.locals) s₄) (fun _ _ => False) s₃) (fun _ _ => False) s₂) (fun _ _ => False) s := by
  obtain ⟨oL, es, ep, hL, hLr⟩ := F.ns
  have hLlt := ltN (Heap.lt_size hL)
  have haxlt : ax ≠ s.heap.objs.size := by obtain ⟨o, ho, _⟩ := hl; exact Nat.ne_of_lt (Heap.lt_size ho)
  refine wpAny_pyIter_list hl ?_
  generalize hH1 : s.heap.push { cls := .type "list_iterator", data := .fields #[.ref ax, .int 0 0] } = H1
  have hz1 : H1.objs.size = s.heap.objs.size + 1 := by rw [← hH1, Heap.size_push]
  have k1 : ∀ b o, s.heap.get? b = some o → H1.get? b = some o := fun b o e => by rw [← hH1]; exact Heap.get?_push_of_some _ e
  have hit : H1.IsListIter s.heap.objs.size ax 0 := by rw [← hH1]; exact ⟨_, Heap.get?_push_size _ rfl, rfl, rfl⟩
  refine wpAny_newObj_type ?_
  generalize hH2 : H1.push { cls := .type "list", dict := none, data := .seq ([] : List Value).toArray } = H2
  have hz2 : H2.objs.size = s.heap.objs.size + 2 := by rw [← hH2, Heap.size_push, hz1]
  have k2 : ∀ b o, H1.get? b = some o → H2.get? b = some o := fun b o e => by rw [← hH2]; exact Heap.get?_push_of_some _ e
  have hD2 : H2.get? H1.objs.size = some (listOf [].toArray 0) := by rw [← hH2]; exact Heap.get?_push_size _ rfl
  refine wpAny_newFunctionEnv hcell (by intro y hy; simp at hy) (fun h₁ hns₁ hsb₁ => ?_) hkind
  dsimp only at hns₁ hsb₁ ⊢
  have k3 : ∀ b o, H2.get? b = some o → h₁.get? b = some o := fun b o e => hsb₁.extBut b o (Nat.ne_of_lt (Heap.lt_size e)) (Heap.get?_push_of_some _ e)
  have fresh : ∀ a : Nat, s.heap.objs.size ≤ a → g.get? a = none := fun a ha => by
    cases e : g.get? a with
    | none => rfl
    | some o' => exact absurd (Heap.lt_size (F.keep _ _ e)) (Nat.not_lt.mpr ha)
  have hC0 : g.get? H2.objs.size = none := fresh _ (by omega)
  have hCL : (H2.objs.size : Addr) ≠ L := neN (by omega)
  have hDL : (H1.objs.size : Addr) ≠ L := neN (by omega)
  have FC : Fr g H2.objs.size h₁ (fun x => List.lookup x ([] : List (Str × Value)).reverse) := ⟨hns₁, fun b o e => k3 _ _ (k2 _ _ (k1 _ _ (F.keep b o e))), by
    have := ltN (Nat.lt_of_le_of_lt F.above hLlt)
    exact Nat.le_of_lt (by rw [hz2]; exact Nat.lt_of_lt_of_le this (Nat.le_add_right _ 2))⟩
  have NC : News g H2.objs.size h₁ ((H1.objs.size, listOf [].toArray 0) :: (L, oL) :: news₀) := fun p hp => by
    rcases List.mem_cons.mp hp with rfl | hp
    · exact ⟨k3 _ _ hD2, neN (by dsimp only; omega), fresh _ (by omega)⟩
    · rcases List.mem_cons.mp hp with rfl | hp
      · exact ⟨k3 _ _ (k2 _ _ (k1 _ _ hL)), Ne.symm hCL, by
          cases e : g.get? L with
          | none => rfl
          | some o' => exact absurd (Heap.lt_size e) (Nat.not_lt.mpr F.above)⟩
      · have hp1 := ltN (Heap.lt_size (N p hp).1)
        exact ⟨k3 _ _ (k2 _ _ (k1 _ _ (N p hp).1)), neN (by omega), (N p hp).2.2⟩
  have hoff : ∀ p ∈ news₀, p.1 ≠ s.heap.objs.size ∧ p.1 ≠ H1.objs.size ∧ p.1 ≠ L := fun p hp => by
    have hp1 := ltN (Heap.lt_size (N p hp).1)
    exact ⟨neN (by omega), neN (by omega), (N p hp).2.1⟩
  have loop : ∀ s₃ : Shared, s₃ = { s with heap := h₁, toks := s.toks + ([] : List (Str × Value)).length } →
      codeAny (model P w) A (.compLoop (.ListComp elt [⟨target, iter, ifs, 0⟩] scope pos) 0 (.ref s.heap.objs.size) (.ref H1.objs.size) (compEnvC scope cl H2.objs.size env)) (RR (.ref H1.objs.size) H2.objs.size) s₃ := by
    rintro s₃ rfl
    refine comp_loop (s := { s with heap := h₁, toks := s.toks + ([] : List (Str × Value)).length }) (ax := ax) (vs := vs) hh J hz hax hJ (hit.at fun o e => k3 _ _ (k2 _ _ e)) (hl.at fun o e => k3 _ _ (k2 _ _ (k1 _ _ e))) haxlt FC NC (fresh _ (Nat.le_refl _)) (neN (by omega)) (neN (by omega)) (neN (by omega)) hDL hoff h0
      (fun i v acc n mc news o h tk => turn _ _ _ oL i v acc n mc news o h tk) ?_ ht
    intro acc n mc news h tk hJe F' N' hoff'
    exact done _ _ acc n mc oL news h tk hJe F' N' hoff' (fun k hk => ⟨oL, es, ep, hk, hLr⟩) hC0 hDL hCL
  exact codeAny_compStart_list (loop _ rfl) (wpAny_pyIter_listiter (hit.at fun o e => k3 _ _ (k2 _ _ e)) (loop _ rfl))

/-- a comprehension as an expression -/
theorem comp_eval {elt target iter : PySem.Expr} {ifs : List PySem.Expr} {scope : Scope} {pos : Pos} {cl : List (Str × Addr)} {Q : Value → Shared → Prop}
    (hh : A.handled = none) (hclos : closureFor scope env = pure cl) (hkind : scope.kind = .function) (hcell : ∀ y ∈ scope.names, y.2 ≠ .cell) (hnames : ∀ x ∈ scope.names, x.2 = .local → scope.names.lookup x.1 = some .local)
    (J : Nat → List Value → List (Addr × Obj) → Prop) (hJ : ∀ i acc news, J i acc news → acc.length ≤ i) (ht : TgtOk target)
    (h : wpAny (model P w) A (eval iter env) (fun x s₁ => ∃ ax vs m news, x = .ref ax ∧ vs.length < 2 ^ 20 ∧ ((∃ o, g.get? ax = some o) ∨ (∃ o, ∀ i acc news, J i acc news → (ax, o) ∈ news)) ∧ s₁.heap.IsList ax (vs : List Value).toArray ∧ Fr g L s₁.heap m ∧ News g L s₁.heap news ∧ J 0 [] news ∧
      CompTurn w A s₁ g L env elt target ifs scope cl vs J ∧
      (∀ D acc n news h tk, J vs.length acc news → Fr g L h m → News g L h ((D, listOf acc.toArray n) :: news) → (∀ p ∈ news, p.1 ≠ D) → Q (.ref D) { s₁ with heap := h, toks := tk })) (fun _ _ => False) s)
    (hs : ∀ x, foldedSetIterable iter env x = pure x := by intro _; rfl) :
    wpAny (model P w) A (eval (.ListComp elt [⟨target, iter, ifs, 0⟩] scope pos) env) Q (fun _ _ => False) s := by
  rw [eval_ListComp]
  refine wpAny_comprehension_free (use := none) rfl hs hclos hkind hnames ?_
  refine wpAny_mono h (fun x s₁ h₁ => ?_) fun _ _ x => x
  obtain ⟨ax, vs, m, news, rfl, hz, hax, hl, F, N, h0, turn, done⟩ := h₁
  refine comp_start (RR := fun acc C r s' => compPost (model P w) A (fun _ _ => False) none Q acc C r s') hh hkind hcell J hz hax hJ hl F N h0 turn ?_ ht
  intro C D acc n mc oL news h tk hJe F' N' hoff hns hC0 hDL hCL
  refine ⟨mc, F'.ns, fun h' hs' => ?_⟩
  obtain ⟨F2, N2⟩ := comp_back F' N' hns F.above hC0 hDL (fun p hp => (hoff p hp).2) hs'
  exact done D acc n news h' tk hJe F2 N2 fun p hp => (hoff p hp).1

/-- y = [..] -/
theorem comp_assign {elt target iter : PySem.Expr} {ifs : List PySem.Expr} {scope : Scope} {pos spos py : Pos} {y : Str} {cl : List (Str × Addr)} {Q : Flow → Shared → Prop}
    (hh : A.handled = none) (hclos : closureFor scope env = pure cl) (hkind : scope.kind = .function) (hcell : ∀ y ∈ scope.names, y.2 ≠ .cell) (hnames : ∀ x ∈ scope.names, x.2 = .local → scope.names.lookup x.1 = some .local)
    (hy : env.kindOf y = some .local) (hp : (env.scope.kind == .class || (env.scope.kind == .module && env.locals != env.globals)) = false) (hL : env.locals = L)
    (hsw : swapsWith (.ListComp elt [⟨target, iter, ifs, 0⟩] scope pos) (some (.Name y py)) spos.line env = pure true)
    (J : Nat → List Value → List (Addr × Obj) → Prop) (hJ : ∀ i acc news, J i acc news → acc.length ≤ i) (ht : TgtOk target)
    (h : wpAny (model P w) A (eval iter env) (fun x s₁ => ∃ ax vs m news, x = .ref ax ∧ vs.length < 2 ^ 20 ∧ ((∃ o, g.get? ax = some o) ∨ (∃ o, ∀ i acc news, J i acc news → (ax, o) ∈ news)) ∧ s₁.heap.IsList ax (vs : List Value).toArray ∧ Fr g L s₁.heap m ∧ News g L s₁.heap news ∧ J 0 [] news ∧
      CompTurn w A s₁ g L env elt target ifs scope cl vs J ∧
      (∀ D acc n news h tk, J vs.length acc news → Fr g L h (fun z => if z = y then some (.ref D) else m z) → News g L h ((D, listOf acc.toArray n) :: news) → (∀ p ∈ news, p.1 ≠ D) → Q .next { s₁ with heap := h, toks := tk })) (fun _ _ => False) s)
    (hs : ∀ x, foldedSetIterable iter env x = pure x := by intro _; rfl) :
    wpAny (model P w) A (exec (.Assign [.Name y py] (.ListComp elt [⟨target, iter, ifs, 0⟩] scope pos) spos) env) Q (fun _ _ => False) s := by
  subst hL
  rw [exec_Assign_Name_used _ _ _ _ hsw]
  refine wpAny_bind (wpAny_standAt (wpAny_bind ?_))
  show wpAny _ A (do let _ ← comprehension (.ListComp elt [⟨target, iter, ifs, 0⟩] scope pos) scope env _ (newList []) false (eval iter env) (some (assign (.Name y py) env))) _ _ s
  refine wpAny_bind (wpAny_mono (wpAny_comprehension_free (Q := fun _ s' => Q .next s') (E := fun _ _ => False) rfl hs hclos hkind hnames ?_) (fun _ s' hq => wpAny_pure (wpAny_pure hq)) fun _ _ e => e)
  refine wpAny_mono h (fun x s₁ h₁ => ?_) fun _ _ x => x
  obtain ⟨ax, vs, m, news, rfl, hz, hax, hl, F, N, h0, turn, done⟩ := h₁
  refine comp_start (RR := fun acc C r s' => compPost (model P w) A (fun _ _ => False) (some (assign (.Name y py) env)) (fun _ s' => Q .next s') acc C r s') hh hkind hcell J hz hax hJ hl F N h0 turn ?_ ht
  intro C D acc n mc oL news h tk hJe F' N' hoff hns hC0 hDL hCL
  obtain ⟨F2, N2⟩ := comp_back F' N' hns F.above hC0 hDL (fun p hp => (hoff p hp).2) (.refl ..)
  refine wpAny_assign_Name (wpAny_storeName_local hy F2.ns (fun h2 hn2 hs2 => ?_) hp)
  obtain ⟨oC, es, ep, hC, r⟩ := F'.ns
  refine ⟨mc, ⟨oC, es, ep, (hs2.2 _ hCL).trans hC, r⟩, fun h' hs' => ?_⟩
  have hoffC : ∀ p ∈ (D, listOf acc.toArray n) :: news, p.1 ≠ C := fun p hp => by
    rcases List.mem_cons.mp hp with rfl | hp
    · exact (N' _ (.head _)).2.1
    · exact (N' _ (.tail _ (.tail _ hp))).2.1
  obtain ⟨F3, N3⟩ := same_off (F2.set hn2 hs2) (N2.set hs2) hC0 hCL hoffC hs'
  exact done D acc n news h' _ hJe F3 N3 fun p hp => (hoff p hp).1
end
end Mine
end

-- part Srt
section
open PySem PySem.W PySem.Calls PyProof.Rows Mine.hd
set_option Elab.async false
set_option maxRecDepth 100000
namespace Mine

/-- a sort's tree of questions, answered -/
noncomputable def kasRun {α : Type} (c : Nat → Nat → Bool) : KasT α → α
  | .ret a => a
  | .ask i j k => kasRun c (k (c i j))

theorem kasRun_bind {α β : Type} {c : Nat → Nat → Bool} {f : α → KasT β} : ∀ t : KasT α, kasRun c (t.bind f) = kasRun c (f (kasRun c t))
  | .ret _ => rfl
  | .ask i j k => kasRun_bind (k (c i j))

theorem kasWp_run {α : Type} {cmp : Nat → Nat → (Bool → Shared → Prop) → Shared → Prop} {c : Nat → Nat → Bool} {Q : α → Shared → Prop} {s : Shared} (hc : ∀ (i j : Nat) (C : Bool → Shared → Prop), C (c i j) s → cmp i j C s) :
    ∀ t : KasT α, Q (kasRun c t) s → t.kasWp cmp Q s
  | .ret _, h => h
  | .ask i j k, h => hc i j _ (kasWp_run hc (k (c i j)) h)

section
variable {O : KeyOrd} {key : Nat → O.α}
noncomputable def kat (key : Nat → O.α) (p : Array Nat) (i : Nat) : O.α := key (p.getD i 0)
noncomputable def UpTo (key : Nat → O.α) (p : Array Nat) (k : Nat) : Prop := ∀ i j, i ≤ j → j < k → O.kle (kat key p i) (kat key p j)
noncomputable def DownTo (key : Nat → O.α) (p : Array Nat) (k : Nat) : Prop := ∀ i j, i ≤ j → j < k → O.kle (kat key p j) (kat key p i)
noncomputable def cmpOf (key : Nat → O.α) (i j : Nat) : Bool := O.blt (key i) (key j)

theorem kat_eq {p q : Array Nat} {i j : Nat} (h : p[i]? = q[j]?) : kat key p i = kat key q j := by
  unfold kat; rw [Array.getD_eq_getD_getElem?, Array.getD_eq_getD_getElem?, h]

theorem kat_bubble {p : Array Nat} {src d : Nat} (hs : src < p.size) (hd : d ≤ src) (k : Nat) :
    kat key (bubble p src d) k = if k = src - d then kat key p src else if src - d < k ∧ k ≤ src then kat key p (k - 1) else kat key p k := by
  have e := getElem?_bubble hs d hd k
  by_cases h1 : k = src - d
  · rw [if_pos h1] at e ⊢; exact kat_eq e
  · rw [if_neg h1] at e ⊢
    by_cases h2 : src - d < k ∧ k ≤ src
    · rw [if_pos h2] at e ⊢; exact kat_eq e
    · rw [if_neg h2] at e ⊢; exact kat_eq e

theorem kat_rev {p : Array Nat} {i j : Nat} (hj : j ≤ p.size) (k : Nat) : kat key (kas_rev p i j) k = if i ≤ k ∧ k < j then kat key p (i + j - 1 - k) else kat key p k := by
  have e := getElem?_mirror_all (i := i) hj k
  unfold kas_rev
  by_cases h1 : i ≤ k ∧ k < j
  · rw [if_pos h1] at e ⊢; exact kat_eq e
  · rw [if_neg h1] at e ⊢; exact kat_eq e

theorem kat_rev_same {p : Array Nat} {i j : Nat} (hj : j ≤ p.size) (he : ∀ k, i ≤ k → k < j → kat key p k = kat key p (j - 1)) (k : Nat) : kat key (kas_rev p i j) k = kat key p k := by
  rw [kat_rev hj]
  split
  · rw [he _ (by omega) (by omega), he k (by omega) (by omega)]
  · rfl

theorem UpTo.next {p : Array Nat} {n : Nat} (h : UpTo key p n) (hn : 1 ≤ n) (hl : O.blt (kat key p n) (kat key p (n - 1)) = false) : UpTo key p (n + 1) := by
  intro i j hij hj
  by_cases hjn : j < n
  · exact h i j hij hjn
  · have e : j = n := by omega
    subst e
    by_cases hi : i = j
    · subst hi; exact KeyOrd.kle_refl _
    · exact KeyOrd.kle_trans (h i (j - 1) (by omega) (by omega)) hl

theorem run_asc (p : Array Nat) : ∀ (f n : Nat), 1 ≤ n → UpTo key p n → n ≤ kasRun (cmpOf key) (kas_asc p f n) ∧ kasRun (cmpOf key) (kas_asc p f n) ≤ n + f ∧ UpTo key p (kasRun (cmpOf key) (kas_asc p f n)) ∧
      (kasRun (cmpOf key) (kas_asc p f n) = n + f ∨ O.klt (kat key p (kasRun (cmpOf key) (kas_asc p f n))) (kat key p (kasRun (cmpOf key) (kas_asc p f n) - 1)))
  | 0, n, _, h => ⟨Nat.le_refl _, Nat.le_refl _, h, .inl rfl⟩
  | f + 1, n, hn, h => by
    have e : kasRun (cmpOf key) (kas_asc p (f + 1) n) = if cmpOf key (p.getD n 0) (p.getD (n - 1) 0) = true then n else kasRun (cmpOf key) (kas_asc p f (n + 1)) := by
      show kasRun (cmpOf key) (if cmpOf key (p.getD n 0) (p.getD (n - 1) 0) = true then .ret n else kas_asc p f (n + 1)) = _
      split <;> rfl
    rw [e]
    cases hc : cmpOf key (p.getD n 0) (p.getD (n - 1) 0) with
    | true => exact ⟨Nat.le_refl _, Nat.le_add_right _ _, h, .inr hc⟩
    | false =>
      obtain ⟨a, b, c, d⟩ := run_asc p f (n + 1) (by omega) (h.next hn hc)
      simp only [Bool.false_eq_true, if_false]
      exact ⟨by omega, by omega, c, d.imp (fun d => by omega) id⟩

theorem run_tail3 {p : Array Nat} {n nrem : Nat} (hz : nrem ≤ p.size) (h1 : 1 ≤ n) (hn : n ≤ nrem) (h : DownTo key p n) :
    (kasRun (cmpOf key) (kas_tail3 n nrem p)).2.Perm p ∧ 1 ≤ (kasRun (cmpOf key) (kas_tail3 n nrem p)).1 ∧ (kasRun (cmpOf key) (kas_tail3 n nrem p)).1 ≤ nrem ∧ UpTo key (kasRun (cmpOf key) (kas_tail3 n nrem p)).2 (kasRun (cmpOf key) (kas_tail3 n nrem p)).1 := by
  unfold kas_tail3
  rw [kasRun_bind]
  have hu : UpTo key (kas_rev p 0 n) n := by
    intro i j hij hj
    rw [kat_rev (by omega), kat_rev (by omega), if_pos (by omega), if_pos (by omega)]
    exact h _ _ (by omega) (by omega)
  obtain ⟨a, b, c, _⟩ := run_asc (key := key) (kas_rev p 0 n) (nrem - n) n h1 hu
  exact ⟨mirror_perm _ _ _ _, by simp only [kasRun]; omega, by simp only [kasRun]; omega, c⟩

theorem run_desc : ∀ (f : Nat) (p : Array Nat) (n q : Nat), n + f ≤ p.size → q + 1 ≤ n → DownTo key p n → (∀ i, n - (q + 1) ≤ i → i < n → kat key p i = kat key p (n - 1)) →
    (kasRun (cmpOf key) (kas_desc f p n q)).1.Perm p ∧ n ≤ (kasRun (cmpOf key) (kas_desc f p n q)).2.1 ∧ (kasRun (cmpOf key) (kas_desc f p n q)).2.1 ≤ n + f ∧ DownTo key (kasRun (cmpOf key) (kas_desc f p n q)).1 (kasRun (cmpOf key) (kas_desc f p n q)).2.1 ∧
      (kasRun (cmpOf key) (kas_desc f p n q)).2.2 + 1 ≤ (kasRun (cmpOf key) (kas_desc f p n q)).2.1 ∧
      (∀ i, (kasRun (cmpOf key) (kas_desc f p n q)).2.1 - ((kasRun (cmpOf key) (kas_desc f p n q)).2.2 + 1) ≤ i → i < (kasRun (cmpOf key) (kas_desc f p n q)).2.1 → kat key (kasRun (cmpOf key) (kas_desc f p n q)).1 i = kat key (kasRun (cmpOf key) (kas_desc f p n q)).1 ((kasRun (cmpOf key) (kas_desc f p n q)).2.1 - 1))
  | 0, p, n, q, hz, hq, hd, he => ⟨.refl _, Nat.le_refl _, Nat.le_refl _, hd, hq, he⟩
  | f + 1, p, n, q, hz, hq, hd, he => by
    have e : kasRun (cmpOf key) (kas_desc (f + 1) p n q) = if cmpOf key (p.getD n 0) (p.getD (n - 1) 0) = true then (if q > 0 then kasRun (cmpOf key) (kas_desc f (kas_rev p (n - (q + 1)) n) (n + 1) 0) else kasRun (cmpOf key) (kas_desc f p (n + 1) 0))
        else if cmpOf key (p.getD (n - 1) 0) (p.getD n 0) = true then (p, n, q) else kasRun (cmpOf key) (kas_desc f p (n + 1) (q + 1)) := by
      show kasRun (cmpOf key) (if cmpOf key (p.getD n 0) (p.getD (n - 1) 0) = true then (if q > 0 then kas_desc f (kas_rev p (n - (q + 1)) n) (n + 1) 0 else kas_desc f p (n + 1) 0)
        else .ask (p.getD (n - 1) 0) (p.getD n 0) fun d => if d = true then .ret (p, n, q) else kas_desc f p (n + 1) (q + 1)) = _
      split
      · split <;> rfl
      · show kasRun (cmpOf key) (if cmpOf key (p.getD (n - 1) 0) (p.getD n 0) = true then .ret (p, n, q) else kas_desc f p (n + 1) (q + 1)) = _
        split <;> rfl
    rw [e]
    cases hc : cmpOf key (p.getD n 0) (p.getD (n - 1) 0) with
    | true =>
      have step1 : ∀ xs : Array Nat, (∀ k, kat key xs k = kat key p k) → DownTo key xs (n + 1) := by
        intro xs hk i j hij hj
        rw [hk, hk]
        by_cases hjx : j < n
        · exact hd i j hij hjx
        · have e : j = n := by omega
          subst e
          by_cases hi : i = j
          · subst hi; exact KeyOrd.kle_refl _
          · exact KeyOrd.kle_trans (KeyOrd.kle_of_klt hc) (hd i (j - 1) (by omega) (by omega))
      simp only [if_true]
      by_cases hq0 : q > 0
      · rw [if_pos hq0]
        obtain ⟨a1, a2, a3, a4, a5, a6⟩ := run_desc f (kas_rev p (n - (q + 1)) n) (n + 1) 0 (by rw [show (kas_rev p (n - (q + 1)) n).size = p.size from mirror_size _ _ _ _]; omega) (by omega) (step1 _ (kat_rev_same (by omega) he)) (fun i h1 h2 => by congr 1; omega)
        exact ⟨a1.trans (mirror_perm _ _ _ _), by omega, by omega, a4, a5, a6⟩
      · rw [if_neg hq0]
        obtain ⟨a1, a2, a3, a4, a5, a6⟩ := run_desc f p (n + 1) 0 (by omega) (by omega) (step1 _ fun _ => rfl) (fun i h1 h2 => by congr 1; omega)
        exact ⟨a1, by omega, by omega, a4, a5, a6⟩
    | false =>
      simp only [Bool.false_eq_true, if_false]
      cases hd2 : cmpOf key (p.getD (n - 1) 0) (p.getD n 0) with
      | true =>
        simp only [if_true]
        exact ⟨.refl _, Nat.le_refl _, Nat.le_add_right _ _, hd, hq, he⟩
      | false =>
        simp only [Bool.false_eq_true, if_false]
        have heq : kat key p n = kat key p (n - 1) := KeyOrd.kle_antisymm hd2 hc
        obtain ⟨a1, a2, a3, a4, a5, a6⟩ := run_desc f p (n + 1) (q + 1) (by omega) (by omega) (fun i j hij hj => by
          by_cases hjx : j < n
          · exact hd i j hij hjx
          · have e : j = n := by omega
            subst e
            by_cases hi : i = j
            · subst hi; exact KeyOrd.kle_refl _
            · rw [heq]; exact hd i (j - 1) (by omega) (by omega)) (fun i h1 h2 => by
          rw [show n + 1 - 1 = n by omega]
          by_cases hix : i = n
          · subst hix; rfl
          · rw [heq]; exact he i (by omega) (by omega))
        exact ⟨a1, by omega, by omega, a4, a5, a6⟩

theorem run_descPart {p : Array Nat} {n nrem : Nat} (hz : nrem ≤ p.size) (h1 : 1 ≤ n) (hn : n + 1 ≤ nrem) (h : DownTo key p (n + 1)) :
    (kasRun (cmpOf key) (kas_descPart n nrem p)).2.Perm p ∧ 1 ≤ (kasRun (cmpOf key) (kas_descPart n nrem p)).1 ∧ (kasRun (cmpOf key) (kas_descPart n nrem p)).1 ≤ nrem ∧ UpTo key (kasRun (cmpOf key) (kas_descPart n nrem p)).2 (kasRun (cmpOf key) (kas_descPart n nrem p)).1 := by
  unfold kas_descPart
  rw [kasRun_bind]
  obtain ⟨a1, a2, a3, a4, a5, a6⟩ := run_desc (key := key) (nrem - (n + 1)) p (n + 1) 0 (by omega) (by omega) h (fun i h1 h2 => by congr 1; omega)
  generalize kasRun (cmpOf key) (kas_desc (nrem - (n + 1)) p (n + 1) 0) = r at *
  have hrz : r.1.size = p.size := a1.size_eq
  split
  · obtain ⟨b1, b2, b3, b4⟩ := run_tail3 (key := key) (p := kas_rev r.1 (r.2.1 - (r.2.2 + 1)) r.2.1) (n := r.2.1) (nrem := nrem) (by rw [show (kas_rev r.1 (r.2.1 - (r.2.2 + 1)) r.2.1).size = r.1.size from mirror_size _ _ _ _]; omega) (by omega) (by omega) (fun i j hij hj => by
      rw [kat_rev_same (by omega) a6, kat_rev_same (by omega) a6]; exact a4 i j hij hj)
    exact ⟨(b1.trans (mirror_perm _ _ _ _)).trans a1, b2, b3, b4⟩
  · obtain ⟨b1, b2, b3, b4⟩ := run_tail3 (key := key) (p := r.1) (n := r.2.1) (nrem := nrem) (by omega) (by omega) (by omega) a4
    exact ⟨b1.trans a1, b2, b3, b4⟩

theorem run_count {p : Array Nat} {nrem : Nat} (hz : nrem ≤ p.size) (h1 : 1 ≤ nrem) :
    (kasRun (cmpOf key) (kas_count nrem p)).2.Perm p ∧ 1 ≤ (kasRun (cmpOf key) (kas_count nrem p)).1 ∧ (kasRun (cmpOf key) (kas_count nrem p)).1 ≤ nrem ∧ UpTo key (kasRun (cmpOf key) (kas_count nrem p)).2 (kasRun (cmpOf key) (kas_count nrem p)).1 := by
  unfold kas_count
  rw [kasRun_bind]
  obtain ⟨a1, a2, a3, a4⟩ := run_asc (key := key) p (nrem - 1) 1 (Nat.le_refl _) (fun i j hij hj => by
    have : i = j := by omega
    subst this; exact KeyOrd.kle_refl _)
  generalize kasRun (cmpOf key) (kas_asc p (nrem - 1) 1) = n at *
  by_cases hnn : n = nrem
  · rw [if_pos (by simpa using hnn)]
    exact ⟨.refl _, a1, by show n ≤ nrem; omega, a3⟩
  · rw [if_neg (by simpa using hnn)]
    have hlt : O.klt (kat key p n) (kat key p (n - 1)) := a4.resolve_left (by omega)
    by_cases hgt : n > 1
    · rw [if_pos hgt]
      simp only [kasRun]
      cases hc : cmpOf key (p.getD 0 0) (p.getD (n - 1) 0) with
      | true =>
        simp only [if_true]
        exact ⟨.refl _, a1, by show n ≤ nrem; omega, a3⟩
      | false =>
        simp only [Bool.false_eq_true, if_false]
        have heq : ∀ k, 0 ≤ k → k < n → kat key p k = kat key p (n - 1) := fun k _ hk => by
          have e0 : kat key p 0 = kat key p (n - 1) := KeyOrd.kle_antisymm (a3 0 (n - 1) (by omega) (by omega)) hc
          exact KeyOrd.kle_antisymm (a3 k (n - 1) (by omega) (by omega)) (e0 ▸ a3 0 k (by omega) hk)
        have hsame := kat_rev_same (key := key) (p := p) (i := 0) (j := n) (by omega) heq
        obtain ⟨b1, b2, b3, b4⟩ := run_descPart (key := key) (p := kas_rev p 0 n) (n := n) (nrem := nrem) (by rw [show (kas_rev p 0 n).size = p.size from mirror_size _ _ _ _]; omega) a1 (by omega) (fun i j hij hj => by
          rw [hsame, hsame]
          by_cases hjx : j < n
          · rw [heq i (by omega) (by omega), heq j (by omega) hjx]; exact KeyOrd.kle_refl _
          · have e : j = n := by omega
            subst e
            by_cases hi : i = j
            · subst hi; exact KeyOrd.kle_refl _
            · rw [heq i (by omega) (by omega)]; exact KeyOrd.kle_of_klt hlt)
        exact ⟨b1.trans (mirror_perm _ _ _ _), b2, b3, b4⟩
    · rw [if_neg hgt]
      have e1 : n = 1 := by omega
      subst e1
      exact run_descPart hz (Nat.le_refl _) (by omega) (fun i j hij hj => by
        by_cases hi : i = j
        · subst hi; exact KeyOrd.kle_refl _
        · have : i = 0 := by omega
          have : j = 1 := by omega
          subst i j
          exact KeyOrd.kle_of_klt hlt)

theorem run_place {p : Array Nat} {k : Nat} (hs : UpTo key p k) : ∀ (f l r : Nat), l ≤ r → r ≤ k → r - l ≤ f → (∀ i, i < l → O.kle (kat key p i) (kat key p k)) → (∀ i, r ≤ i → i < k → O.klt (kat key p k) (kat key p i)) →
    kasRun (cmpOf key) (kas_place p k f l r) ≤ k ∧ (∀ i, i < kasRun (cmpOf key) (kas_place p k f l r) → O.kle (kat key p i) (kat key p k)) ∧ (∀ i, kasRun (cmpOf key) (kas_place p k f l r) ≤ i → i < k → O.klt (kat key p k) (kat key p i))
  | 0, l, r, hlr, hrk, hf, hlo, hhi => by
    have e : l = r := by omega
    subst e
    exact ⟨hrk, hlo, hhi⟩
  | f + 1, l, r, hlr, hrk, hf, hlo, hhi => by
    unfold kas_place
    by_cases hge : l ≥ r
    · rw [if_pos hge]
      have e : l = r := by omega
      subst e
      exact ⟨hrk, hlo, hhi⟩
    · rw [if_neg hge]
      simp only [kasRun]
      cases hc : cmpOf key (p.getD k 0) (p.getD ((l + r) / 2) 0) with
      | true =>
        simp only [if_true]
        exact run_place hs f l ((l + r) / 2) (by omega) (by omega) (by omega) hlo (fun i h1 h2 => KeyOrd.klt_of_klt_of_kle hc (hs _ _ h1 h2))
      | false =>
        simp only [Bool.false_eq_true, if_false]
        exact run_place hs f ((l + r) / 2 + 1) r (by omega) hrk (by omega) (fun i h1 => KeyOrd.kle_trans (hs i ((l + r) / 2) (by omega) (by omega)) hc) hhi

theorem run_bin : ∀ (f : Nat) (p : Array Nat) (k : Nat), k + f ≤ p.size → UpTo key p k → (kasRun (cmpOf key) (kas_bin f p k)).Perm p ∧ UpTo key (kasRun (cmpOf key) (kas_bin f p k)) (k + f)
  | 0, p, k, _, h => ⟨.refl _, h⟩
  | f + 1, p, k, hz, h => by
    unfold kas_bin
    rw [kasRun_bind]
    obtain ⟨hlk, hlo, hhi⟩ := run_place (key := key) h k 0 k (Nat.zero_le _) (Nat.le_refl _) (by omega) (fun i hi => by omega) (fun i h1 h2 => by omega)
    generalize kasRun (cmpOf key) (kas_place p k k 0 k) = l at *
    obtain ⟨a, b⟩ := run_bin f (bubble p k (k - l)) (k + 1) (by rw [bubble_size]; omega) (by
      intro i j hij hj
      rw [kat_bubble (by omega) (by omega), kat_bubble (by omega) (by omega), show k - (k - l) = l by omega]
      repeat' split
      all_goals first
        | (exfalso; omega)
        | exact KeyOrd.kle_refl _
        | exact hlo _ (by omega)
        | exact KeyOrd.kle_of_klt (hhi _ (by omega) (by omega))
        | exact h _ _ (by omega) (by omega))
    exact ⟨a.trans (bubble_perm _ _ _), by rw [show k + (f + 1) = k + 1 + f by omega]; exact b⟩

theorem run_sort {n : Nat} (h1 : 1 ≤ n) : (kasRun (cmpOf key) (kas_sort n)).Perm (List.toArray (List.range n)) ∧ UpTo key (kasRun (cmpOf key) (kas_sort n)) n := by
  unfold kas_sort
  rw [kasRun_bind]
  have hz : (List.toArray (List.range n)).size = n := by simp
  obtain ⟨a1, a2, a3, a4⟩ := run_count (key := key) (p := List.toArray (List.range n)) (nrem := n) (by omega) h1
  generalize kasRun (cmpOf key) (kas_count n (List.toArray (List.range n))) = r at *
  have hrz : r.2.size = n := a1.size_eq.trans hz
  by_cases hlt : r.1 < n
  · rw [if_pos hlt]
    have e : max r.1 1 = r.1 := by omega
    rw [e]
    obtain ⟨b1, b2⟩ := run_bin (key := key) (n - r.1) r.2 r.1 (by omega) a4
    exact ⟨b1.trans a1, by rw [show r.1 + (n - r.1) = n by omega] at b2; exact b2⟩
  · rw [if_neg hlt]
    have e : r.1 = n := by omega
    exact ⟨a1, e ▸ a4⟩
end
end Mine
end

-- part Srt2
section
open PySem PySem.W PySem.Calls PyProof.Rows Mine.hd
set_option Elab.async false
set_option maxRecDepth 100000
namespace Mine

structure Sg where
  a : Addr
  x : Str
  r : Int
  tx : Tok
  tr : Tok
noncomputable def Sg.val (e : Sg) : Value := .ref e.a
noncomputable def Sg.obj (e : Sg) : Obj := { cls := .type "tuple", data := .seq #[.str e.x e.tx, .int e.r e.tr] }
noncomputable def Sg.ent (e : Sg) : Addr × Obj := (e.a, e.obj)

noncomputable def pairLt (p q : List Nat × Int) : Bool := decide (p.1 < q.1) || (decide (p.1 = q.1) && decide (p.2 < q.2))
theorem pairLt_iff {p q : List Nat × Int} : pairLt p q = true ↔ p.1 < q.1 ∨ (p.1 = q.1 ∧ p.2 < q.2) := by
  unfold pairLt; simp
theorem pairLt_false {p q : List Nat × Int} : pairLt p q = false ↔ ¬ p.1 < q.1 ∧ (p.1 = q.1 → ¬ p.2 < q.2) := by
  unfold pairLt; simp
@[reducible] noncomputable def pairOrd : KeyOrd where
  α := List Nat × Int
  blt := pairLt
  irrefl a := by rw [pairLt_false]; exact ⟨List.lt_irrefl _, fun _ => by omega⟩
  trans a b c h1 h2 := by
    rw [pairLt_iff] at *
    rcases h1 with h1 | ⟨e1, h1⟩
    · rcases h2 with h2 | ⟨e2, h2⟩
      · exact .inl (List.lt_trans h1 h2)
      · exact .inl (e2 ▸ h1)
    · rcases h2 with h2 | ⟨e2, h2⟩
      · exact .inl (e1 ▸ h2)
      · exact .inr ⟨e1.trans e2, by omega⟩
  negTrans a b c h := by
    rw [pairLt_iff] at h
    rw [pairLt_iff, pairLt_iff]
    by_cases hab : a.1 < b.1
    · exact .inl (.inl hab)
    · have hba := List.not_lt.mp hab
      rcases h with h | ⟨e, h⟩
      · by_cases hbc : b.1 < c.1
        · exact .inr (.inl hbc)
        · exact absurd (List.lt_of_le_of_lt hba h) hbc
      · by_cases hbc : b.1 < c.1
        · exact .inr (.inl hbc)
        · have e2 : b.1 = c.1 := List.le_antisymm (e ▸ hba) (List.not_lt.mp hbc)
          by_cases hr : a.2 < b.2
          · exact .inl (.inr ⟨e.trans e2.symm, hr⟩)
          · exact .inr (.inr ⟨e2, by omega⟩)
  total a b h1 h2 := by
    rw [pairLt_false] at *
    have e : a.1 = b.1 := List.le_antisymm (List.not_lt.mp h2.1) (List.not_lt.mp h1.1)
    have e2 : a.2 = b.2 := by have := h1.2 e; have := h2.2 e.symm; omega
    exact Prod.ext e e2
noncomputable def Sg.key (e : Sg) : List Nat × Int := (e.x.cps.toList, e.r)

section
variable {w : World} {A : Around} {E : Value → Shared → Prop} {s : Shared} {g : Heap} {L : Addr} {m : Str → Option Value} {news : List (Addr × Obj)}

theorem sg_lt {e f : Sg} {Q : Bool → Shared → Prop} (he : s.heap.get? e.a = some e.obj) (hf : s.heap.get? f.a = some f.obj) (h : Q (pairLt e.key f.key) s) :
    wpAny (model P w) A (keyLt' (tuples' true) (.ref e.a) (.ref f.a)) Q E s := by
  refine kat_lt he rfl hf rfl ?_
  refine kat_cons (wpAny_eqBool_str ?_)
  by_cases hx : e.x = f.x
  · rw [decide_eq_true hx]
    refine kat_yes (kat_cons (wpAny_eqBool_int ?_))
    by_cases hr : e.r = f.r
    · have e1 : (e.r == f.r) = true := by rw [hr]; exact beq_self_eq_true _
      rw [e1]
      refine kat_yes (kat_nil ?_)
      have e2 : pairLt e.key f.key = false := by
        rw [pairLt_false]
        unfold Sg.key
        rw [hx, hr]
        exact ⟨List.lt_irrefl _, fun _ => by omega⟩
      rw [e2] at h
      exact h
    · have e1 : (e.r == f.r) = false := by rw [beq_eq_false_iff_ne]; exact hr
      rw [e1]
      refine kat_no (kat_one _ _ (PyProof.Rows.lt_int ?_))
      have e2 : pairLt e.key f.key = decide (e.r < f.r) := by
        unfold pairLt Sg.key
        rw [hx]
        simp [List.lt_irrefl]
      rw [e2] at h
      exact h
  · rw [decide_eq_false hx]
    refine kat_no (oneLt_str ?_)
    have hx' : ¬ e.x.cps.toList = f.x.cps.toList := fun q => hx (Str.ext' (Array.toList_inj.mp q))
    have e2 : pairLt e.key f.key = decide (e.x.cps.toList < f.x.cps.toList) := by
      unfold pairLt Sg.key
      simp [hx']
    rw [e2] at h
    exact h
end
end Mine
end

-- part Srt3
section
open PySem PySem.W PySem.Calls PyProof.Rows Mine.hd
set_option Elab.async false
set_option maxRecDepth 100000
namespace Mine

/-- every question is about places below n; what comes back is as post says -/
noncomputable def KasIn {α : Type} (n : Nat) (post : α → Prop) : KasT α → Prop
  | .ret a => post a
  | .ask i j k => i < n ∧ j < n ∧ ∀ b, KasIn n post (k b)

theorem KasIn.bind {α β : Type} {n : Nat} {post : α → Prop} {post' : β → Prop} {f : α → KasT β} : ∀ {t : KasT α}, KasIn n post t → (∀ a, post a → KasIn n post' (f a)) → KasIn n post' (t.bind f)
  | .ret _, h, hf => hf _ h
  | .ask _ _ _, h, hf => ⟨h.1, h.2.1, fun b => (h.2.2 b).bind hf⟩

theorem kasWp_in {α : Type} {cmp : Nat → Nat → (Bool → Shared → Prop) → Shared → Prop} {c : Nat → Nat → Bool} {n : Nat} {post : α → Prop} {Q : α → Shared → Prop} {s : Shared} (hc : ∀ (i j : Nat) (C : Bool → Shared → Prop), i < n → j < n → C (c i j) s → cmp i j C s) :
    ∀ t : KasT α, KasIn n post t → Q (kasRun c t) s → t.kasWp cmp Q s
  | .ret _, _, h => h
  | .ask i j k, hi, h => hc i j _ hi.1 hi.2.1 (kasWp_in hc (k (c i j)) (hi.2.2 _) h)

noncomputable def Bel (n : Nat) (p : Array Nat) : Prop := ∀ i, p.getD i 0 < n

theorem Bel.perm {n : Nat} {p q : Array Nat} (h : Bel n p) (hn : 0 < n) (hp : q.Perm p) : Bel n q := by
  intro i
  rw [Array.getD_eq_getD_getElem?]
  cases e : q[i]? with
  | none => exact hn
  | some x =>
    have hm : x ∈ q := Array.mem_of_getElem? e
    have hm' : x ∈ p := hp.mem_iff.mp hm
    obtain ⟨j, hj⟩ := Array.getElem?_of_mem hm'
    have := h j
    rw [Array.getD_eq_getD_getElem?, hj] at this
    exact this

section
variable {n : Nat}
theorem in_asc {p : Array Nat} (h : Bel n p) : ∀ f k, KasIn n (fun _ => True) (kas_asc p f k)
  | 0, _ => trivial
  | f + 1, k => ⟨h _, h _, fun b => by cases b; exact in_asc h f (k + 1); exact trivial⟩
theorem in_desc (hn : 0 < n) : ∀ f p k q, Bel n p → KasIn n (fun r => Bel n r.1) (kas_desc f p k q)
  | 0, _, _, _, h => h
  | f + 1, p, k, q, h => ⟨h _, h _, fun b => by
    cases b with
    | true =>
      show KasIn n _ (if q > 0 then kas_desc f (kas_rev p (k - (q + 1)) k) (k + 1) 0 else kas_desc f p (k + 1) 0)
      split
      · exact in_desc hn f _ _ _ (h.perm hn (mirror_perm _ _ _ _))
      · exact in_desc hn f _ _ _ h
    | false => exact ⟨h _, h _, fun b => by cases b; exact in_desc hn f _ _ _ h; exact h⟩⟩
theorem in_tail3 (hn : 0 < n) {p : Array Nat} {k nrem : Nat} (h : Bel n p) : KasIn n (fun r => Bel n r.2) (kas_tail3 k nrem p) := by
  have h' : Bel n (kas_rev p 0 k) := h.perm hn (mirror_perm _ _ _ _)
  exact (in_asc h' _ _).bind fun _ _ => h'
theorem in_descPart (hn : 0 < n) {p : Array Nat} {k nrem : Nat} (h : Bel n p) : KasIn n (fun r => Bel n r.2) (kas_descPart k nrem p) := by
  refine (in_desc hn _ p _ _ h).bind fun r hr => ?_
  split
  · exact in_tail3 hn (hr.perm hn (mirror_perm _ _ _ _))
  · exact in_tail3 hn hr
theorem in_count (hn : 0 < n) {p : Array Nat} {nrem : Nat} (h : Bel n p) : KasIn n (fun r => Bel n r.2) (kas_count nrem p) := by
  refine (in_asc h _ _).bind fun k _ => ?_
  split
  · exact h
  · split
    · refine ⟨h _, h _, fun b => ?_⟩
      cases b with
      | true => exact h
      | false => exact in_descPart hn (h.perm hn (mirror_perm _ _ _ _))
    · exact in_descPart hn h
theorem in_place {p : Array Nat} {k : Nat} (h : Bel n p) : ∀ f l r, KasIn n (fun _ => True) (kas_place p k f l r)
  | 0, _, _ => trivial
  | f + 1, l, r => by
    unfold kas_place
    split
    · trivial
    · exact ⟨h _, h _, fun b => by cases b; exact in_place h f _ _; exact in_place h f _ _⟩
theorem in_bin (hn : 0 < n) : ∀ f p k, Bel n p → KasIn n (fun r => Bel n r) (kas_bin f p k)
  | 0, _, _, h => h
  | f + 1, _, _, h => (in_place h _ _ _).bind fun _ _ => in_bin hn f _ _ (h.perm hn (bubble_perm _ _ _))
theorem in_sort (hn : 0 < n) : KasIn n (fun r => Bel n r) (kas_sort n) := by
  have h : Bel n (List.toArray (List.range n)) := by
    intro i
    rw [Array.getD_eq_getD_getElem?]
    cases e : (List.toArray (List.range n))[i]? with
    | none => exact hn
    | some x =>
      have hm : x ∈ List.toArray (List.range n) := Array.mem_of_getElem? e
      simpa using hm
  refine (in_count hn h).bind fun r hr => ?_
  split
  · exact in_bin hn _ _ _ hr
  · exact hr
end

section
variable {w : World} {A : Around} {E : Value → Shared → Prop} {s : Shared} {g : Heap} {L : Addr} {m : Str → Option Value} {news : List (Addr × Obj)}

theorem sg_tups : ∀ (es : List Sg) {h : Heap}, (∀ e ∈ es, h.get? e.a = some e.obj) → KatTups h (es.map Sg.val) (es.map fun e => Value.str e.x e.tx)
  | [], _, _ => trivial
  | e :: es, _, hh => KatTups.cons (hh e (.head _)) rfl rfl rfl (sg_tups es fun f hf => hh f (.tail _ hf))

/-- the places, sorted -/
theorem sorted_out {es : List Sg} (h1 : 1 ≤ es.length) : ∃ out : List Sg,
    ((kasRun (cmpOf (O := pairOrd) fun i => (es.map Sg.key).getD i ([], 0)) (kas_sort es.length)).toList.map fun i => (es.map Sg.val).getD i Value.none) = out.map Sg.val ∧ out.Perm es ∧ out.Pairwise fun a b => pairLt b.key a.key = false := by
  obtain ⟨hp, hu⟩ := run_sort (O := pairOrd) (key := fun i => (es.map Sg.key).getD i ([], 0)) h1
  generalize kasRun (cmpOf (O := pairOrd) fun i => (es.map Sg.key).getD i ([], 0)) (kas_sort es.length) = p at *
  have hpl : p.toList.Perm (List.range es.length) := by simpa using hp.toList
  have hlen : p.toList.length = es.length := by rw [hpl.length_eq, List.length_range]
  obtain ⟨e0, es', hes⟩ : ∃ e0 es', es = e0 :: es' := by
    match es, h1 with
    | e :: r, _ => exact ⟨e, r, rfl⟩
  have hin : ∀ i ∈ p.toList, i < es.length := fun i hi => List.mem_range.mp (hpl.mem_iff.mp hi)
  refine ⟨p.toList.map fun i => es.getD i e0, ?_, ?_, ?_⟩
  · rw [List.map_map]
    refine List.map_congr_left fun i hi => ?_
    have := hin i hi
    show (es.map Sg.val).getD i Value.none = (es.getD i e0).val
    simp [List.getD_eq_getElem?_getD, this]
  · have e1 : (List.range es.length).map (fun i => es.getD i e0) = es := by
      apply List.ext_getElem?
      intro i
      by_cases hi : i < es.length
      · simp [hi, List.getD_eq_getElem?_getD]
      · simp [Nat.le_of_not_lt hi]
    have := hpl.map fun i => es.getD i e0
    rwa [e1] at this
  · rw [List.pairwise_map, List.pairwise_iff_getElem]
    intro i j hi hj hij
    have hi' : i < es.length := by omega
    have hj' : j < es.length := by omega
    have hk := hu i j (by omega) hj'
    have ki : p.getD i 0 = p.toList[i] := by
      rw [Array.getD_eq_getD_getElem?, ← Array.getElem?_toList, List.getElem?_eq_getElem hi]; rfl
    have kj : p.getD j 0 = p.toList[j] := by
      rw [Array.getD_eq_getD_getElem?, ← Array.getElem?_toList, List.getElem?_eq_getElem hj]; rfl
    unfold KeyOrd.kle kat at hk
    rw [ki, kj] at hk
    have ii := hin _ (List.getElem_mem hi)
    have jj := hin _ (List.getElem_mem hj)
    have ee : ∀ q, q < es.length → (es.map Sg.key).getD q ([], 0) = (es.getD q e0).key := fun q hq => by simp [List.getD_eq_getElem?_getD, hq]
    dsimp only at hk
    rw [ee _ ii, ee _ jj] at hk
    exact hk

theorem sorted_two {es : List Sg} {l : Addr} {Q : Value → Shared → Prop} (F : Fr g L s.heap m) (N : News g L s.heap news) (hl : s.heap.IsList l (es.map Sg.val).toArray) (hes : ∀ e ∈ es, e.ent ∈ news) (h2 : 2 ≤ es.length) (h64 : es.length < 64)
    (h : ∀ D n h' tk out, Fr g L h' m → News g L h' ((D, listOf (List.map Sg.val out).toArray n) :: news) → (∀ q ∈ news, q.1 ≠ D) → out.Perm es → (out.Pairwise fun a b => pairLt b.key a.key = false) → Q (.ref D) { s with heap := h', toks := tk }) :
    wpAny (model P w) A (call (.builtin "sorted") [.ref l]) Q E s := by
  refine kat_sorted F N hl (by simpa using h2) (by simpa using h64) fun D e1 h' F' N' hlt => ?_
  have hget : ∀ e ∈ es, h'.get? e.a = some e.obj := fun e he => (N' _ (.tail _ (hes e he))).1
  refine kat_kind (T := .type "str") (sg_tups es hget) (by simp; omega) (fun v hv => ?_) (by decide) ?_
  · obtain ⟨e, _, rfl⟩ := List.mem_map.mp hv
    exact Looks.of_pure rfl
  · show ((kas_sort (List.map Sg.val es).length).kasWp (kas_ask P w A.in1.in1 (tuples' true) (List.map Sg.val es)) _ _)
    rw [List.length_map]
    obtain ⟨out, ho1, ho2, ho3⟩ := sorted_out (es := es) (by omega)
    refine kasWp_in (n := es.length) (c := cmpOf (O := pairOrd) fun i => (es.map Sg.key).getD i ([], 0)) (fun i j C hi hj hC => ?_) _ (in_sort (by omega)) ?_
    · unfold kas_ask
      have e1 : (es.map Sg.val).getD i Value.none = .ref es[i].a := by simp [List.getD_eq_getElem?_getD, hi, Sg.val]
      have e2 : (es.map Sg.val).getD j Value.none = .ref es[j].a := by simp [List.getD_eq_getElem?_getD, hj, Sg.val]
      have e3 : cmpOf (O := pairOrd) (fun i => (es.map Sg.key).getD i ([], 0)) i j = pairLt es[i].key es[j].key := by
        unfold cmpOf
        simp [List.getD_eq_getElem?_getD, hi, hj]
      rw [e1, e2]
      rw [e3] at hC
      exact sg_lt (hget _ (List.getElem_mem hi)) (hget _ (List.getElem_mem hj)) hC
    · rw [ho1]
      exact KasFin.intro F' N' (.head fun q hq => Nat.ne_of_lt (hlt q hq)) fun h'' c F'' N'' => h D c h'' _ out F'' N'' (fun q hq => Nat.ne_of_lt (hlt q hq)) ho2 ho3
end
end Mine
end

-- part Srt4
section
open PySem PySem.W PySem.Calls PyProof.Rows Mine.hd
set_option Elab.async false
set_option maxRecDepth 100000
namespace Mine
section
variable {w : World} {A : Around} {E : Value → Shared → Prop} {s : Shared} {g : Heap} {L a : Addr} {m : Str → Option Value} {news : List (Addr × Obj)} {vs : List Value}

theorem lsort_small {n : Nat} {R : PySem.Fin → Shared → Prop} (F : Fr g L s.heap m) (N : News g L s.heap news) (ho : s.heap.get? a = some (seqObj "list" vs.toArray n)) (haL : a ≠ L) (ha0 : g.get? a = none) (hna : ∀ p ∈ news, p.1 ≠ a)
    (h2 : vs.length < 2)
    (h : ∀ h' c, Fr g L h' m → News g L h' ((a, listOf vs.toArray c) :: news) → R (.done (.ret .none)) { s with heap := h' }) :
    wpAny (model P w) A (Builtin.«list.sort» ⟨[.ref a], []⟩) R E s := by
  have s1 := Heap.SameBut.update s.heap a (Obj.mapSeq fun _ => (#[] : Array Value))
  obtain ⟨e1, ho1⟩ : ∃ e1, (s.heap.update a (Obj.mapSeq fun _ => (#[] : Array Value))).get? a = some (seqObj "list" #[] e1) := ⟨_, get?_update_seq ho fun _ => #[]⟩
  have F3 : Fr g L (((s.heap.update a (Obj.mapSeq fun _ => (#[] : Array Value))).push (seqObj "tuple" vs.toArray 0)).push (seqObj "list" #[] 0)) m := ((kas_fr F s1 haL ha0).push _).push _
  have N3 : News g L (((s.heap.update a (Obj.mapSeq fun _ => (#[] : Array Value))).push (seqObj "tuple" vs.toArray 0)).push (seqObj "list" #[] 0)) news :=
    (kas_news N s1 hna).grown fun b x e => Heap.get?_push_of_some _ (Heap.get?_push_of_some _ e)
  have ho3 : (((s.heap.update a (Obj.mapSeq fun _ => (#[] : Array Value))).push (seqObj "tuple" vs.toArray 0)).push (seqObj "list" #[] 0)).get? a = some (seqObj "list" #[] e1) := Heap.get?_push_of_some _ (Heap.get?_push_of_some _ ho1)
  rw [list_sort_plain]
  refine wpAny_bind (listItems_at ho rfl ?_)
  refine wpAny_bind (listUpdate_at ho rfl ?_ (by rw [List.size_toArray, sizeLine_eq]; omega) (Nat.zero_le _))
  refine wpAny_bind (seqEpoch_at ho1 rfl ?_)
  refine wpAny_bind (wpAny_newTuple ?_ (by show vs.length ≤ _; rw [sizeLine_eq]; omega))
  refine wpAny_bind (wpAny_newList ?_ (Nat.zero_le _))
  refine wpAny_holding ?_
  show wpAny (model P w) A _ R E { s with heap := ((s.heap.update a (Obj.mapSeq fun _ => (#[] : Array Value))).push (seqObj "tuple" vs.toArray 0)).push (seqObj "list" #[] 0) }
  generalize ((s.heap.update a (Obj.mapSeq fun _ => (#[] : Array Value))).push (seqObj "tuple" vs.toArray 0)).push (seqObj "list" #[] 0) = H3 at F3 N3 ho3 ⊢
  dsimp only
  have hn2 : vs.toArray.size < 2 := by rw [List.size_toArray]; exact h2
  rw [if_pos hn2, if_pos hn2]
  refine wpAny_bind (wpAny_pure ?_)
  refine wpAny_bind (wpAny_pure ?_)
  dsimp only
  have hout : (arrOf (SortSt.mk' general' (vs.toArray.zip vs.toArray) #[] 7 none)).map (·.2) = vs.toArray := by
    show (vs.toArray.zip vs.toArray).map (·.2) = vs.toArray
    apply Array.toList_inj.mp
    simp [List.map_snd_zip]
  rw [hout]
  have s2 := Heap.SameBut.update H3 a (Obj.mapSeq fun _ => vs.toArray)
  obtain ⟨c2, hc2⟩ : ∃ c2, (H3.update a (Obj.mapSeq fun _ => vs.toArray)).get? a = some (seqObj "list" vs.toArray c2) := ⟨_, get?_update_seq ho3 fun _ => vs.toArray⟩
  refine wpAny_bind (seqEpoch_at ho3 rfl ?_)
  refine wpAny_bind (listUpdate_at ho3 rfl ?_ (Nat.zero_le _) (by rw [List.size_toArray, sizeLine_eq]; omega))
  simp only [bne_self_eq_false, Bool.false_eq_true, if_false]
  refine wpAny_pure (h _ c2 (kas_fr F3 s2 haL ha0) fun p hp => ?_)
  rcases List.mem_cons.mp hp with rfl | hp
  · exact ⟨hc2, haL, ha0⟩
  · exact kas_news N3 s2 hna p hp

theorem sorted_small {l : Addr} {Q : Value → Shared → Prop} (F : Fr g L s.heap m) (N : News g L s.heap news) (hl : s.heap.IsList l vs.toArray) (h2 : vs.length < 2)
    (h : ∀ D n h', Fr g L h' m → News g L h' ((D, listOf vs.toArray n) :: news) → (∀ q ∈ news, q.1 ≠ D) → Q (.ref D) { s with heap := h' }) :
    wpAny (model P w) A (call (.builtin "sorted") [.ref l]) Q E s := by
  refine Calls.call_function_entry kind_sorted plain_sorted entry_sorted (args_sorted1 _) ?_
  unfold Builtin.«sorted»
  refine wpAny_bind (m := checkCount "sorted" 1 1 _) (wpAny_pure ?_)
  refine wpAny_bind (collect_list hl ?_ (by rw [sizeLine_eq]; omega))
  refine wpAny_bind (wpAny_newList ?_ (by rw [sizeLine_eq]; omega))
  have hsz : ((s.heap.push (seqObj "list" #[] 0)).update s.heap.objs.size (Obj.mapSeq (· ++ vs.toArray))).objs.size = s.heap.objs.size + 1 := by
    rw [Heap.size_update, size_push']
  have hoL : (((s.heap.push (seqObj "list" #[] 0)).update s.heap.objs.size (Obj.mapSeq (· ++ vs.toArray))).push (seqObj "list" vs.toArray 0)).get? (s.heap.objs.size + 1) = some (seqObj "list" vs.toArray 0) := by
    rw [← hsz]; exact Heap.get?_push_size _ rfl
  have keep : ∀ b o, s.heap.get? b = some o → (((s.heap.push (seqObj "list" #[] 0)).update s.heap.objs.size (Obj.mapSeq (· ++ vs.toArray))).push (seqObj "list" vs.toArray 0)).get? b = some o := fun b o q => by
    have hlt : b < s.heap.objs.size := Heap.lt_size q
    rw [Heap.get?_push_ne _ _ _ (by rw [hsz]; exact Nat.ne_of_lt (Nat.lt_succ_of_lt hlt)), Heap.get?_update_ne _ _ _ _ (Nat.ne_of_lt hlt), Heap.get?_push_ne _ _ _ (Nat.ne_of_lt hlt)]
    exact q
  have hL : L < s.heap.objs.size := F.ns.lt
  have hnD : ∀ p ∈ news, p.1 ≠ s.heap.objs.size + 1 := fun p hp => Nat.ne_of_lt (Nat.lt_succ_of_lt (Heap.lt_size (N p hp).1))
  show wpAny _ _ _ _ _ { s with heap := ((s.heap.push (seqObj "list" #[] 0)).update s.heap.objs.size (Obj.mapSeq (· ++ vs.toArray))).push (seqObj "list" vs.toArray 0) }
  rw [hsz]
  refine wpAny_bind (wpAny_holding (wpAny_call_entry slot_list_sort ⟨_, hoL, rfl⟩ entry_list_sort ?body (args_list_sort _)))
  case body =>
    refine lsort_small (s := { s with heap := ((s.heap.push (seqObj "list" #[] 0)).update s.heap.objs.size (Obj.mapSeq (· ++ vs.toArray))).push (seqObj "list" vs.toArray 0) })
      (F.kept keep) (N.grown keep) hoL (Nat.ne_of_gt (Nat.lt_succ_of_lt hL)) (Heap.get?_none_of_le (Nat.le_trans F.above (Nat.le_succ_of_le (Nat.le_of_lt hL)))) hnD h2 fun h' c F' N' => ?_
    exact ⟨_, rfl, wpAny_pure ⟨_, rfl, h _ c h' F' N' hnD⟩⟩

theorem sorted_sg {es : List Sg} {l : Addr} {Q : Value → Shared → Prop} (F : Fr g L s.heap m) (N : News g L s.heap news) (hl : s.heap.IsList l (es.map Sg.val).toArray) (hes : ∀ e ∈ es, e.ent ∈ news) (h64 : es.length < 64)
    (h : ∀ D n h' tk out, Fr g L h' m → News g L h' ((D, listOf (List.map Sg.val out).toArray n) :: news) → (∀ q ∈ news, q.1 ≠ D) → out.Perm es → (out.Pairwise fun a b => pairLt b.key a.key = false) → Q (.ref D) { s with heap := h', toks := tk }) :
    wpAny (model P w) A (call (.builtin "sorted") [.ref l]) Q E s := by
  by_cases h2 : 2 ≤ es.length
  · exact sorted_two F N hl hes h2 h64 h
  · refine sorted_small F N hl (by simp; omega) fun D n h' F' N' hoff => h D n h' _ es F' N' hoff (.refl _) ?_
    match es, h2 with
    | [], _ => exact .nil
    | [e], _ => exact List.pairwise_singleton _ _
    | _ :: _ :: _, h2 => exact absurd (by simp) h2
end
end Mine
end

-- part EntC
section
open PySem PySem.W PySem.Calls PyProof.Rows Mine.hd
set_option Elab.async false
set_option maxRecDepth 100000
namespace Mine
section
variable {w : World} {A : Around} {E : Value → Shared → Prop} {s : Shared} {base : Heap} {mean : ExcName → Option Value} {mg mb : Str → Option Value}
  {name qual : Str} {params : Arguments} {body : List Stmt} {scope : Scope} {dV kV doc pm cdv ct oc : Value} {an od : Option Addr} {osl : Array (Option Value)} {f : Addr} {args : List Value} {binds : List (Str × Value)}
  {Q : Value → Shared → Prop}

/-- a call of a def with cells that changes nothing that stood -/
theorem enter0C (X : (heap_39 w.params).In base) (T : Tp mean mg mb base) (st : base.StaysIn s.heap)
    (ho : (heap_39 w.params).lookup f = some ⟨oc, od, .func (fnOf name qual params body scope dV kV doc pm an cdv ct), osl⟩) (hcd : codeIn (heap_39 w.params) cdv qual = true) (hroom : A.depth < recursionLimit)
    (hbind : BindsTo s (fnOf name qual params body scope dV kV doc pm an cdv ct) ⟨args, []⟩ binds)
    (hkind : (binds.all fun y => scope.names.lookup y.1 == some .local || scope.names.lookup y.1 == some .cell) = true)
    (hnd : ((cellsFrom 0 scope.names []).map (·.1)).Nodup)
    (h : ∀ L' h₁ tk cells, Fr s.heap L' h₁ (bindL (envOfC qual scope L' f cdv).kindOf binds fun _ => none) → News s.heap L' h₁ cells →
      CellsAre (bindC (envOfC qual scope L' f cdv).kindOf binds fun _ => none) (cellsFrom (L' + 1) scope.names []) cells → (heap_39 w.params).In s.heap → Tp mean mg mb s.heap →
      wpAny (model P w) (A.deeper (envOfC qual scope L' f cdv)) (execs body (envOfC qual scope L' f cdv))
        (fun fl s' => Q (match fl with | .ret v => v | _ => .none) s') (fun _ _ => False)
        { s with heap := h₁, toks := tk })
    (hco : scope.isCoroutine = false := by rfl) (hgen : scope.isGenerator = false := by rfl) (hk : scope.kind = .function := by rfl) : wpAny (model P w) A (call (.ref f) args) Q E s := by
  refine wpAny_call ?_
  have X' : (heap_39 w.params).In s.heap := X.keeps st
  refine codeAny_call_function (fd := fnOf name qual params body scope dV kV doc pm an cdv ct) hroom (X' _ _ ho) rfl hco hgen rfl (codeRec_of X' hcd) (hbind _ _ _ _ ?_)
  refine wpAny_newFunctionEnv_cells hk (kindsX hkind _) fun env' he s' x => ?_
  subst he
  refine ⟨(T.nolimit.keeps st).keeps x.toInCall.keep, codeAny_func ?_⟩
  obtain ⟨h₁, tk, rfl, _⟩ := x.done
  have hk₁ := x.toInCall.keep
  obtain ⟨cells, NC, Y⟩ := Cl.news (h₀ := s.heap) (Nat.le_refl _) fun n c hm => ⟨x.cell n c (lookup_of_mem_nodup (cellsFrom_names scope.names 0 (s.heap.objs.size + 1) [] [] rfl ▸ hnd) hm), x.above n c hm⟩
  exact wpAny_mono (h s.heap.objs.size h₁ tk cells ⟨x.toInCall.ns, hk₁, Nat.le_refl _⟩ NC Y X' (T.keeps st)) (fun _ _ x => x) (fun _ _ x => x.elim)
end
end Mine
end

-- part Rules7
section
open PySem PySem.W PySem.Calls PyProof.Rows Mine.hd
set_option Elab.async false
set_option maxRecDepth 100000
namespace Mine

/-- the ledger with l's object changed -/
noncomputable def upd (l : Addr) (o : Obj) (news : List (Addr × Obj)) : List (Addr × Obj) := (l, o) :: news.filter (fun p => p.1 != l)

theorem upd_self {l : Addr} {o : Obj} {news : List (Addr × Obj)} : (l, o) ∈ upd l o news := .head _
theorem upd_mem {l : Addr} {o : Obj} {news : List (Addr × Obj)} {p : Addr × Obj} (h : p ∈ news) (n : p.1 ≠ l) : p ∈ upd l o news := .tail _ (List.mem_filter.mpr ⟨h, by simpa using n⟩)
theorem upd_inv {l : Addr} {o : Obj} {news : List (Addr × Obj)} {p : Addr × Obj} (h : p ∈ upd l o news) : p = (l, o) ∨ (p ∈ news ∧ p.1 ≠ l) := by
  rcases List.mem_cons.mp h with h | h
  · exact .inl h
  · have := List.mem_filter.mp h
    exact .inr ⟨this.1, by simpa using this.2⟩

section
variable {w : World} {A : Around} {E : Value → Shared → Prop} {s : Shared} {g : Heap} {L l : Addr} {m : Str → Option Value} {news : List (Addr × Obj)} {env : Env} {vs : List Value} {n : Nat}

theorem news_upd' {h h' : Heap} {o o' : Obj} (N : News g L h news) (hm : (l, o) ∈ news) (hs : Heap.SameBut l h h') (ho : h'.get? l = some o') : News g L h' (upd l o' news) := fun p hp => by
  rcases upd_inv hp with rfl | ⟨hp, hn⟩
  · exact ⟨ho, (N _ hm).2⟩
  · exact ⟨(hs.2 p.1 hn).trans (N p hp).1, (N p hp).2⟩

theorem app_mem {x : Value} {Q : Value → Shared → Prop} (F : Fr g L s.heap m) (N : News g L s.heap news) (hm : (l, listOf vs.toArray n) ∈ news) (hz : vs.length < 2 ^ 20)
    (h : ∀ h', Fr g L h' m → News g L h' (upd l (listOf (vs ++ [x]).toArray (n + 1)) news) → Q .none { s with heap := h' }) : wpAny (model P w) A (call (.builtin "list.append") [.ref l, x]) Q E s := by
  have z := N _ hm
  refine append_at (hsz := by rw [sizeLine_eq]; simp; omega) z.1 fun h' hs ho' => h h' (F.change hs z.2.1 z.2.2) (news_upd' N hm hs ?_)
  rw [ho']
  simp

theorem store_cell {x : Str} {c : Addr} {o : Obj} {v₀ : Option Value} {v : Value} {Q : Unit → Shared → Prop} (hk : env.scope.kind = .function) (hx : env.kindOf x = some .cell) (hc : env.cells.lookup x = some c)
    (F : Fr g L s.heap m) (N : News g L s.heap news) (hm : (c, o) ∈ news) (hd : o.data = .cell v₀)
    (h : ∀ h' o', Fr g L h' m → News g L h' (upd c o' news) → o'.data = .cell (some v) → Q () { s with heap := h' }) : wpAny (model P w) A (storeName env x v) Q E s := by
  have z := N _ hm
  refine wpAny_storeName_cell hk hx hc ⟨o, z.1, hd⟩ fun h' hv hs => ?_
  obtain ⟨o', ho', hd'⟩ := hv
  exact h h' o' (F.change hs z.2.1 z.2.2) (news_upd' N hm hs ho') hd'

theorem read_cell {x : Str} {pos : Pos} {c : Addr} {o : Obj} {v : Value} {Q : Value → Shared → Prop} (hk : env.scope.kind = .function) (hx : env.kindOf x = some .cell) (hc : env.cells.lookup x = some c)
    (N : News g L s.heap news) (hm : (c, o) ∈ news) (hd : o.data = .cell (some v)) (h : Q v s) (hb : (x == ("__debug__" : Str)) = false := by decide) : wpAny (model P w) A (eval (.Name x pos) env) Q E s :=
  wpAny_Name (wpAny_loadName_cell hk hx hc ⟨o, N.get hm, hd⟩ h) hb

/-- range(r, -1, -1) as a source -/
theorem small_down {r : Nat} (hr : r < 100) : Builtin.Range.small (r : Int) (-1) (-1) = true ∧ Builtin.Range.rangeSize (r : Int) (-1) (-1) = ((r + 1 : Nat) : Int) := by
  have hsz : Builtin.Range.rangeSize (r : Int) (-1) (-1) = ((r + 1 : Nat) : Int) := by
    unfold Builtin.Range.rangeSize
    rw [if_neg (by decide), if_pos (by omega)]
    simp
  refine ⟨?_, hsz⟩
  unfold Builtin.Range.small
  rw [hsz]
  have hf : ∀ i : Int, -(2 ^ 63) ≤ i → i < 2 ^ 63 → Builtin.Range.rangeFitsLong i = true := fun i h1 h2 => by
    unfold Builtin.Range.rangeFitsLong
    simp only [Bool.and_eq_true, decide_eq_true_eq]
    exact ⟨h1, h2⟩
  rw [hf r (by omega) (by omega), hf ((r + 1 : Nat) : Int) (by omega) (by omega), hf (-1) (by decide) (by decide)]
  rw [if_neg (by decide), hf (-1 + (-1 + 1)) (by decide) (by decide)]
  simp
theorem small_up {r : Nat} (hr : r < 100) : Builtin.Range.small 0 (r : Int) 1 = true ∧ Builtin.Range.rangeSize 0 (r : Int) 1 = (r : Int) := by
  have hsz : Builtin.Range.rangeSize 0 (r : Int) 1 = (r : Int) := by rw [rangeSize_nat]; omega
  refine ⟨?_, hsz⟩
  unfold Builtin.Range.small
  rw [hsz]
  have hf : ∀ i : Int, -(2 ^ 63) ≤ i → i < 2 ^ 63 → Builtin.Range.rangeFitsLong i = true := fun i h1 h2 => by
    unfold Builtin.Range.rangeFitsLong
    simp only [Bool.and_eq_true, decide_eq_true_eq]
    exact ⟨h1, h2⟩
  rw [hf r (by omega) (by omega), hf 0 (by decide) (by decide), hf 1 (by decide) (by decide)]
  rw [if_pos (by decide), hf ((r : Int) + (1 - 1)) (by omega) (by omega)]
  simp
end
end Mine
end

-- part Rules8
section
open PySem PySem.W PySem.Calls PyProof.Rows Mine.hd
set_option Elab.async false
set_option maxRecDepth 100000
namespace Mine

noncomputable def offI (I : Addr) (news : List (Addr × Obj)) : List (Addr × Obj) := news.filter (fun p => p.1 != I)
theorem mem_offI {I : Addr} {news : List (Addr × Obj)} {p : Addr × Obj} (h : p ∈ news) (n : p.1 ≠ I) : p ∈ offI I news := List.mem_filter.mpr ⟨h, by simpa using n⟩
theorem offI_ne {I : Addr} {news : List (Addr × Obj)} {p : Addr × Obj} (h : p ∈ offI I news) : p.1 ≠ I := by simpa using (List.mem_filter.mp h).2
theorem offI_sub {I : Addr} {news : List (Addr × Obj)} {p : Addr × Obj} (h : p ∈ offI I news) : p ∈ news := (List.mem_filter.mp h).1

theorem news_inj {g h : Heap} {L a : Addr} {o o' : Obj} {news : List (Addr × Obj)} (N : News g L h news) (h1 : (a, o) ∈ news) (h2 : (a, o') ∈ news) : o = o' :=
  Option.some.inj ((N _ h1).1.symm.trans (N _ h2).1)
theorem news_ne {g h : Heap} {L a b : Addr} {o o' : Obj} {news : List (Addr × Obj)} (N : News g L h news) (h1 : (a, o) ∈ news) (h2 : (b, o') ∈ news) (hne : o ≠ o') : a ≠ b := fun e => hne (news_inj N h1 (e ▸ h2))
theorem news_sub {g h : Heap} {L : Addr} {news news' : List (Addr × Obj)} (N : News g L h news) (k : ∀ p ∈ news', p ∈ news) : News g L h news' := fun p hp => N p (k p hp)

theorem forP_next {g h : Heap} {L I : Addr} {o : Obj} {m : Str → Option Value} {news : List (Addr × Obj)} {J : (Str → Option Value) → List (Addr × Obj) → Prop} {s : Shared} {Q : Flow → Shared → Prop} {tk : Nat}
    (F : Fr g L h m) (N : News g L h news) (hI : (I, o) ∈ news) (hJ : J m (offI I news)) : ForP g L I o J s Q .next { s with heap := h, toks := tk } :=
  ⟨h, tk, m, offI I news, rfl, F, fun p hp => by
    rcases List.mem_cons.mp hp with rfl | hp
    · exact N _ hI
    · exact N p (offI_sub hp), fun p hp => offI_ne hp, hJ⟩

theorem compP_end {g h : Heap} {C I D L : Addr} {o oL : Obj} {acc : List Value} {n : Nat} {mc : Str → Option Value} {news : List (Addr × Obj)} {J : List (Addr × Obj) → Prop} {s : Shared} {tk : Nat}
    (F : Fr g C h mc) (N : News g C h news) (hI : (I, o) ∈ news) (hD : (D, listOf acc.toArray n) ∈ news) (hL : (L, oL) ∈ news) (hJ : J (offI I (offI D (offI L news)))) : CompP g C I D L o oL acc n J s { s with heap := h, toks := tk } :=
  ⟨h, tk, mc, offI I (offI D (offI L news)), rfl, F, fun p hp => by
    rcases List.mem_cons.mp hp with rfl | hp
    · exact N _ hI
    · rcases List.mem_cons.mp hp with rfl | hp
      · exact N _ hD
      · rcases List.mem_cons.mp hp with rfl | hp
        · exact N _ hL
        · exact N p (offI_sub (offI_sub (offI_sub hp))), fun p hp => ⟨offI_ne hp, offI_ne (offI_sub hp), offI_ne (offI_sub (offI_sub hp))⟩, hJ⟩
theorem mem_off3 {I D L : Addr} {news : List (Addr × Obj)} {p : Addr × Obj} (h : p ∈ news) (n : p.1 ≠ I ∧ p.1 ≠ D ∧ p.1 ≠ L) : p ∈ offI I (offI D (offI L news)) := mem_offI (mem_offI (mem_offI h n.2.2) n.2.1) n.1

noncomputable def Elt.ent (e : Elt) : Addr × Obj := (e.a, e.obj)
noncomputable def Elt.dat (e : Elt) : Int × List Nat := (e.k, e.t.cps.toList)

theorem tup_list {us : Array Value} {vs : Array Value} {n : Nat} : ({ cls := .type "tuple", data := .seq us } : Obj) ≠ listOf vs n := fun e => by
  have := congrArg Obj.cls e
  simp [W.listOf] at this
theorem cell_list {co : Obj} {v : Option Value} (h : co.data = .cell v) {vs : Array Value} {n : Nat} : co ≠ listOf vs n := fun e => by
  rw [e] at h; cases h
theorem cell_tup {co : Obj} {v : Option Value} (h : co.data = .cell v) {us : Array Value} : co ≠ { cls := .type "tuple", data := .seq us } := fun e => by
  rw [e] at h; cases h

structure DS (c dl : Addr) (v : Option Value) (Is : List Addr) (news : List (Addr × Obj)) (es : List Elt) : Prop where
  cell : ∃ co, (c, co) ∈ news ∧ co.data = .cell v
  lst : ∃ n, (dl, listOf (List.map Elt.val es).toArray n) ∈ news
  els : ∀ e ∈ es, e.ent ∈ news
  off : ∀ x ∈ Is, c ≠ x ∧ dl ≠ x ∧ ∀ e ∈ es, e.a ≠ x

section
variable {g h : Heap} {L c dl I : Addr} {v : Option Value} {Is : List Addr} {news : List (Addr × Obj)} {es : List Elt} {o : Obj}
theorem DS.mono {news' : List (Addr × Obj)} (d : DS c dl v Is news es) (k : ∀ p ∈ news, p ∈ news') : DS c dl v Is news' es := by
  obtain ⟨⟨co, h1, h2⟩, ⟨n, h3⟩, h4, h5⟩ := d
  exact ⟨⟨co, k _ h1, h2⟩, ⟨n, k _ h3⟩, fun e he => k _ (h4 e he), h5⟩
theorem DS.add (d : DS c dl v Is news es) (hoff : ∀ p ∈ news, p.1 ≠ I) : DS c dl v (I :: Is) news es := by
  obtain ⟨⟨co, h1, h2⟩, ⟨n, h3⟩, h4, h5⟩ := d
  refine ⟨⟨co, h1, h2⟩, ⟨n, h3⟩, h4, fun x hx => ?_⟩
  rcases List.mem_cons.mp hx with rfl | hx
  · exact ⟨hoff _ h1, hoff _ h3, fun e he => hoff _ (h4 e he)⟩
  · exact h5 x hx
theorem DS.drop (d : DS c dl v (I :: Is) news es) : DS c dl v Is (offI I news) es := by
  obtain ⟨⟨co, h1, h2⟩, ⟨n, h3⟩, h4, h5⟩ := d
  obtain ⟨q1, q2, q3⟩ := h5 I (.head _)
  exact ⟨⟨co, mem_offI h1 q1, h2⟩, ⟨n, mem_offI h3 q2⟩, fun e he => mem_offI (h4 e he) (q3 e he), fun x hx => h5 x (.tail _ hx)⟩
theorem DS.less {Is' : List Addr} (d : DS c dl v Is news es) (k : ∀ x ∈ Is', x ∈ Is) : DS c dl v Is' news es := ⟨d.cell, d.lst, d.els, fun x hx => d.off x (k x hx)⟩
theorem DS.upd {l : Addr} {o : Obj} (d : DS c dl v Is news es) (hl : l ∈ Is) : DS c dl v Is (upd l o news) es := by
  obtain ⟨⟨co, h1, h2⟩, ⟨n, h3⟩, h4, h5⟩ := d
  obtain ⟨q1, q2, q3⟩ := h5 l hl
  exact ⟨⟨co, upd_mem h1 q1, h2⟩, ⟨n, upd_mem h3 q2⟩, fun e he => upd_mem (h4 e he) (q3 e he), h5⟩
theorem DS.setc {o : Obj} {v' : Option Value} (d : DS c dl v Is news es) (N : News g L h news) (ho : o.data = .cell v') : DS c dl v' Is (Mine.upd c o news) es := by
  obtain ⟨⟨co, h1, h2⟩, ⟨n, h3⟩, h4, h5⟩ := d
  exact ⟨⟨o, upd_self, ho⟩, ⟨n, upd_mem h3 (Ne.symm (news_ne N h1 h3 (cell_list h2)))⟩, fun e he => upd_mem (h4 e he) (Ne.symm (news_ne N h1 (h4 e he) (cell_tup h2))), h5⟩
theorem DS.app {e : Elt} {n : Nat} (d : DS c dl v Is news es) (N : News g L h news) (he : e.ent ∈ news) (hx : ∀ x ∈ Is, e.a ≠ x) : DS c dl v Is (Mine.upd dl (listOf (List.map Elt.val es ++ [Value.ref e.a]).toArray n) news) (es ++ [e]) := by
  obtain ⟨⟨co, h1, h2⟩, ⟨n0, h3⟩, h4, h5⟩ := d
  have hall : ∀ e' ∈ es ++ [e], e'.ent ∈ news := fun e' he' => by
    rcases List.mem_append.mp he' with q | q
    · exact h4 e' q
    · rw [List.mem_singleton.mp q]; exact he
  refine ⟨⟨co, upd_mem h1 (news_ne N h1 h3 (cell_list h2)), h2⟩, ⟨n, ?_⟩, fun e' he' => upd_mem (hall e' he') (news_ne N (hall e' he') h3 tup_list), fun x hxI => ?_⟩
  · rw [List.map_append]; exact upd_self
  · refine ⟨(h5 x hxI).1, (h5 x hxI).2.1, fun e' he' => ?_⟩
    rcases List.mem_append.mp he' with q | q
    · exact (h5 x hxI).2.2 e' q
    · rw [List.mem_singleton.mp q]; exact hx x hxI
theorem upd_sub {l : Addr} {o : Obj} {K : List (Addr × Obj)} (hK : ∀ p ∈ K, p ∈ news) (hl : ∀ p ∈ K, p.1 ≠ l) : ∀ p ∈ K, p ∈ upd l o news := fun p hp => upd_mem (hK p hp) (hl p hp)
theorem offI_keep {K : List (Addr × Obj)} (hK : ∀ p ∈ K, p ∈ news) (hl : ∀ p ∈ K, p.1 ≠ I) : ∀ p ∈ K, p ∈ offI I news := fun p hp => mem_offI (hK p hp) (hl p hp)
end

section
variable {w : World} {A : Around} {s : Shared} {g : Heap} {L : Addr} {env : Env}
theorem store_here {x : Str} {v : Value} {m : Str → Option Value} {news : List (Addr × Obj)} {E : Value → Shared → Prop} {Q : Unit → Shared → Prop} (hx : env.kindOf x = some .local) (hL : env.locals = L) (F : Fr g L s.heap m) (N : News g L s.heap news)
    (h : ∀ h', Fr g L h' (fun y => if y = x then some v else m y) → News g L h' news → Q () { s with heap := h', toks := s.toks + 1 })
    (hp : (env.scope.kind == .class || (env.scope.kind == .module && env.locals != env.globals)) = false := by rfl) : wpAny (model P w) A (storeName env x v) Q E s := by
  subst hL
  exact wpAny_storeName_local hx F.ns (fun h2 hn2 hs2 => h h2 (F.set hn2 hs2) (N.set hs2)) hp
theorem read_here {x : Str} {pos : Pos} {v : Value} {m : Str → Option Value} {E : Value → Shared → Prop} {Q : Value → Shared → Prop} (hk : env.scope.kind = .function) (hx : env.kindOf x = some .local) (hL : env.locals = L) (F : Fr g L s.heap m) (hv : m x = some v)
    (h : Q v s) (hb : (x == ("__debug__" : Str)) = false := by decide) : wpAny (model P w) A (eval (.Name x pos) env) Q E s := by
  subst hL
  exact wpAny_Name (wpAny_loadName_local hk hx F.ns hv h) hb

noncomputable def CompGoA (w : World) (A : Around) (g : Heap) (L : Addr) (env : Env) (elt target : PySem.Expr) (ifs : List PySem.Expr) (scope : Scope) (cl : List (Str × Addr)) (J : Nat → List Value → List (Addr × Obj) → Prop) (y : Str) (Q : Flow → Shared → Prop) (x : Value) (s₁ : Shared) : Prop :=
  ∃ ax vs m news, x = .ref ax ∧ vs.length < 2 ^ 20 ∧ ((∃ o, g.get? ax = some o) ∨ (∃ o, ∀ i acc news, J i acc news → (ax, o) ∈ news)) ∧ s₁.heap.IsList ax (vs : List Value).toArray ∧ Fr g L s₁.heap m ∧ News g L s₁.heap news ∧ J 0 [] news ∧
      CompTurn w A s₁ g L env elt target ifs scope cl vs J ∧
      (∀ D acc n news h tk, J vs.length acc news → Fr g L h (fun z => if z = y then some (.ref D) else m z) → News g L h ((D, listOf acc.toArray n) :: news) → (∀ p ∈ news, p.1 ≠ D) → Q .next { s₁ with heap := h, toks := tk })
noncomputable def CompGoE (w : World) (A : Around) (g : Heap) (L : Addr) (env : Env) (elt target : PySem.Expr) (ifs : List PySem.Expr) (scope : Scope) (cl : List (Str × Addr)) (J : Nat → List Value → List (Addr × Obj) → Prop) (Q : Value → Shared → Prop) (x : Value) (s₁ : Shared) : Prop :=
  ∃ ax vs m news, x = .ref ax ∧ vs.length < 2 ^ 20 ∧ ((∃ o, g.get? ax = some o) ∨ (∃ o, ∀ i acc news, J i acc news → (ax, o) ∈ news)) ∧ s₁.heap.IsList ax (vs : List Value).toArray ∧ Fr g L s₁.heap m ∧ News g L s₁.heap news ∧ J 0 [] news ∧
      CompTurn w A s₁ g L env elt target ifs scope cl vs J ∧
      (∀ D acc n news h tk, J vs.length acc news → Fr g L h m → News g L h ((D, listOf acc.toArray n) :: news) → (∀ p ∈ news, p.1 ≠ D) → Q (.ref D) { s₁ with heap := h, toks := tk })
theorem comp_assign' {elt target iter : PySem.Expr} {ifs : List PySem.Expr} {scope : Scope} {pos spos py : Pos} {y : Str} {cl : List (Str × Addr)} {Q : Flow → Shared → Prop}
    (hh : A.handled = none) (hclos : closureFor scope env = pure cl) (hkind : scope.kind = .function) (hcell : ∀ y ∈ scope.names, y.2 ≠ .cell) (hnames : ∀ x ∈ scope.names, x.2 = .local → scope.names.lookup x.1 = some .local)
    (hy : env.kindOf y = some .local) (hp : (env.scope.kind == .class || (env.scope.kind == .module && env.locals != env.globals)) = false) (hL : env.locals = L)
    (hsw : swapsWith (.ListComp elt [⟨target, iter, ifs, 0⟩] scope pos) (some (.Name y py)) spos.line env = pure true)
    (J : Nat → List Value → List (Addr × Obj) → Prop) (hJ : ∀ i acc news, J i acc news → acc.length ≤ i) (ht : TgtOk target)
    (h : wpAny (model P w) A (eval iter env) (CompGoA w A g L env elt target ifs scope cl J y Q) (fun _ _ => False) s)
    (hs : ∀ x, foldedSetIterable iter env x = pure x := by intro _; rfl) :
    wpAny (model P w) A (exec (.Assign [.Name y py] (.ListComp elt [⟨target, iter, ifs, 0⟩] scope pos) spos) env) Q (fun _ _ => False) s :=
  comp_assign hh hclos hkind hcell hnames hy hp hL hsw J hJ ht h hs
theorem comp_eval' {elt target iter : PySem.Expr} {ifs : List PySem.Expr} {scope : Scope} {pos : Pos} {cl : List (Str × Addr)} {Q : Value → Shared → Prop}
    (hh : A.handled = none) (hclos : closureFor scope env = pure cl) (hkind : scope.kind = .function) (hcell : ∀ y ∈ scope.names, y.2 ≠ .cell) (hnames : ∀ x ∈ scope.names, x.2 = .local → scope.names.lookup x.1 = some .local)
    (J : Nat → List Value → List (Addr × Obj) → Prop) (hJ : ∀ i acc news, J i acc news → acc.length ≤ i) (ht : TgtOk target)
    (h : wpAny (model P w) A (eval iter env) (CompGoE w A g L env elt target ifs scope cl J Q) (fun _ _ => False) s)
    (hs : ∀ x, foldedSetIterable iter env x = pure x := by intro _; rfl) :
    wpAny (model P w) A (eval (.ListComp elt [⟨target, iter, ifs, 0⟩] scope pos) env) Q (fun _ _ => False) s :=
  comp_eval hh hclos hkind hcell hnames J hJ ht h hs
end
end Mine
end

-- part DueP
section
open PySem PySem.W PySem.Calls PyProof.Rows Mine.hd
set_option Elab.async false
set_option maxRecDepth 100000
namespace Mine

structure Hr where
  a : Addr
  x : Str
  ah : Int
  bh : Int
  t1 : Tok
  t2 : Tok
  t3 : Tok
noncomputable def Hr.val (e : Hr) : Value := .ref e.a
noncomputable def Hr.obj (e : Hr) : Obj := { cls := .type "tuple", data := .seq #[.str e.x e.t1, .int e.ah e.t2, .int e.bh e.t3] }
noncomputable def Hr.ent (e : Hr) : Addr × Obj := (e.a, e.obj)
noncomputable def Hr.dat (e : Hr) : List Nat × Int × Int := (e.x.cps.toList, e.ah, e.bh)

noncomputable def marks (n : Nat) : List Nat := List.replicate n 34
theorem foldl_rep {x : Array Nat} : ∀ (n : Nat) (a : Array Nat), ((List.replicate n x).foldl (· ++ ·) a).toList = a.toList ++ (List.replicate n x.toList).flatten
  | 0, a => by simp
  | n + 1, a => by rw [List.replicate_succ, List.foldl_cons, foldl_rep n]; simp [List.replicate_succ]
theorem mul_marks {n : Int} : (Txt.mul (Str.ofString "\"") n).cps.toList = marks n.toNat := by
  unfold Txt.mul marks
  have hq : (Str.ofString "\"").cps = #[34] := rfl
  have hl : ((Str.ofString "\"").length == 0) = false := rfl
  by_cases h1 : n < 1
  · rw [if_pos h1, show n.toNat = 0 by omega]; rfl
  · rw [if_neg h1]
    by_cases h2 : n = 1
    · subst h2; rfl
    · rw [if_neg (by rw [hl]; simpa using h2), hq]
      dsimp only
      rw [foldl_rep]
      simp
noncomputable def inKind (kd : Nat) (r : Int × Int × Int) : Bool := (r.1.fdiv 4096).fmod 16 == (kd : Int)
noncomputable def hereOf (r : Int × Int × Int) : List Nat × Int × Int := ((sgn 3 r.1).cps.toList, r.2.1, r.2.2)
noncomputable def hereL (kd : Nat) (rows : List (Int × Int × Int)) : List (List Nat × Int × Int) := (rows.filter (inKind kd)).map hereOf
noncomputable def nowOf (lv : Int) (h : List Nat × Int × Int) : List Nat × Int := (h.1, max 0 (h.2.2 - h.2.1 + lv))
noncomputable def nowL (lv : Int) (here : List (List Nat × Int × Int)) : List (List Nat × Int) := (here.filter fun h => decide (h.2.1 ≥ lv)).map (nowOf lv)
noncomputable def lastOf (h : List Nat × Int × Int) : List Nat × Int := (h.1, max 0 (h.2.2 - h.2.1))
noncomputable def lastL (here : List (List Nat × Int × Int)) : List (List Nat × Int) := here.map lastOf
noncomputable def sortP (l : List (List Nat × Int)) : List (List Nat × Int) := l.mergeSort fun a b => !pairLt b a
noncomputable def lvlOf (kd lv : Nat) (p : List Nat × Int) : Int × List Nat := ((kd : Int) * 4096, marks lv ++ p.1 ++ marks p.2.toNat)
noncomputable def lvlL (kd lv : Nat) (here : List (List Nat × Int × Int)) : List (Int × List Nat) := (sortP (nowL lv here)).map (lvlOf kd lv)
noncomputable def leftOf (kd : Nat) (p : List Nat × Int) (j : Nat) : Int × List Nat := ((kd : Int) * 4096, p.1 ++ marks (p.2.toNat - j))
noncomputable def downL (kd : Nat) (p : List Nat × Int) : List (Int × List Nat) := (List.range (p.2.toNat + 1)).map (leftOf kd p)
noncomputable def lvls (kd : Nat) (here : List (List Nat × Int × Int)) (j : Nat) : List (Int × List Nat) := ([3, 2, 1].take j).flatMap fun lv => lvlL kd lv here
noncomputable def dueKind (kd : Nat) (rows : List (Int × Int × Int)) : List (Int × List Nat) := lvls kd (hereL kd rows) 3 ++ (sortP (lastL (hereL kd rows))).flatMap (downL kd)
noncomputable def dueL (rows : List (Int × Int × Int)) (n : Nat) : List (Int × List Nat) := (List.range n).flatMap fun kd => dueKind kd rows

theorem flatMap_snoc {α β : Type} {f : α → List β} {l : List α} {x : α} : (l ++ [x]).flatMap f = l.flatMap f ++ f x := by simp
theorem take_snoc? {α : Type} {l : List α} {i : Nat} {x : α} (h : l[i]? = some x) : l.take (i + 1) = l.take i ++ [x] := by rw [List.take_add_one, h]; rfl
theorem dueL_succ {rows : List (Int × Int × Int)} {n : Nat} : dueL rows (n + 1) = dueL rows n ++ dueKind n rows := by
  unfold dueL; rw [List.range_succ, flatMap_snoc]
theorem hereL_snoc {kd : Nat} {rows : List (Int × Int × Int)} {r : Int × Int × Int} : hereL kd (rows ++ [r]) = hereL kd rows ++ (if inKind kd r then [hereOf r] else []) := by
  unfold hereL
  rw [List.filter_append, List.map_append]
  congr 1
  by_cases h : inKind kd r <;> simp [h]
theorem nowL_snoc {lv : Int} {here : List (List Nat × Int × Int)} {h : List Nat × Int × Int} : nowL lv (here ++ [h]) = nowL lv here ++ (if decide (h.2.1 ≥ lv) then [nowOf lv h] else []) := by
  unfold nowL
  rw [List.filter_append, List.map_append]
  congr 1
  by_cases q : decide (h.2.1 ≥ lv) = true <;> simp only [List.filter_cons, List.filter_nil, q] <;> simp
theorem lastL_snoc {here : List (List Nat × Int × Int)} {h : List Nat × Int × Int} : lastL (here ++ [h]) = lastL here ++ [lastOf h] := by
  unfold lastL; simp

theorem pairLt_total {a b : List Nat × Int} (h1 : pairLt a b = false) (h2 : pairLt b a = false) : a = b := by
  rw [pairLt_false] at h1 h2
  have e : a.1 = b.1 := List.le_antisymm (List.not_lt.mp h2.1) (List.not_lt.mp h1.1)
  have := h1.2 e
  have := h2.2 e.symm
  exact Prod.ext e (by omega)
theorem sortP_perm {l : List (List Nat × Int)} : (sortP l).Perm l := List.mergeSort_perm _ _
theorem sortP_pw {l : List (List Nat × Int)} : (sortP l).Pairwise fun a b => pairLt b a = false := by
  have := List.pairwise_mergeSort (le := fun a b => !pairLt b a) (by
    intro a b c h1 h2
    simp only [Bool.not_eq_true'] at *
    cases q : pairLt c a with
    | false => rfl
    | true => rcases pairOrd.negTrans c b a q with r | r
              · exact absurd (h2.symm.trans r) (by decide)
              · exact absurd (h1.symm.trans r) (by decide)) (by
    intro a b
    cases q : pairLt a b with
    | false => simp
    | true =>
      have : pairLt b a = false := by
        cases r : pairLt b a with
        | false => rfl
        | true => exact absurd ((pairOrd.irrefl a).symm.trans (pairOrd.trans _ _ _ q r)) (by decide)
      simp [this]) l
  refine this.imp ?_
  intro a b h
  simpa using h
theorem sorted_eq {l l' : List (List Nat × Int)} (hp : l.Perm l') (h1 : l.Pairwise fun a b => pairLt b a = false) (h2 : l'.Pairwise fun a b => pairLt b a = false) : l = l' :=
  hp.eq_of_pairwise (fun a b _ _ h1 h2 => pairLt_total h2 h1) h1 h2
theorem sortP_eq {l l' : List (List Nat × Int)} (hp : l.Perm l') (h1 : l.Pairwise fun a b => pairLt b a = false) : l = sortP l' :=
  sorted_eq (hp.trans sortP_perm.symm) h1 sortP_pw
noncomputable def HereOk (p : List Nat × Int × Int) : Prop := p.1.length = 10 ∧ 0 ≤ p.2.1 ∧ p.2.1 ≤ 3 ∧ 0 ≤ p.2.2 ∧ p.2.2 ≤ 3

theorem now_bound {lv : Int} {here : List (List Nat × Int × Int)} (h : ∀ p ∈ here, HereOk p) (h0 : 0 ≤ lv) (h3 : lv ≤ 3) {p : List Nat × Int} (hp : p ∈ sortP (nowL lv here)) : p.1.length = 10 ∧ 0 ≤ p.2 ∧ p.2 ≤ 6 := by
  obtain ⟨q, hq, rfl⟩ := List.mem_map.mp (sortP_perm.mem_iff.mp hp)
  obtain ⟨b0, b1, b2, b3, b4⟩ := h q (List.mem_filter.mp hq).1
  refine ⟨b0, ?_, ?_⟩ <;> (show _ ≤ _; unfold nowOf; dsimp only; omega)
theorem last_bound {here : List (List Nat × Int × Int)} (h : ∀ p ∈ here, HereOk p) {p : List Nat × Int} (hp : p ∈ sortP (lastL here)) : p.1.length = 10 ∧ 0 ≤ p.2 ∧ p.2 ≤ 6 := by
  obtain ⟨q, hq, rfl⟩ := List.mem_map.mp (sortP_perm.mem_iff.mp hp)
  obtain ⟨b0, b1, b2, b3, b4⟩ := h q hq
  refine ⟨b0, ?_, ?_⟩ <;> (show _ ≤ _; unfold lastOf; dsimp only; omega)


theorem sortP_len {l : List (List Nat × Int)} : (sortP l).length = l.length := sortP_perm.length_eq
theorem lvlL_len {kd lv : Nat} {here : List (List Nat × Int × Int)} : (lvlL kd lv here).length ≤ here.length := by
  unfold lvlL nowL
  rw [List.length_map, sortP_len, List.length_map]
  exact List.length_filter_le _ _
theorem lvls_len {kd : Nat} {here : List (List Nat × Int × Int)} : ∀ (j : Nat), (lvls kd here j).length ≤ 3 * here.length := by
  have h1 := lvlL_len (kd := kd) (lv := 1) (here := here)
  have h2 := lvlL_len (kd := kd) (lv := 2) (here := here)
  have h3 := lvlL_len (kd := kd) (lv := 3) (here := here)
  intro j
  match j with
  | 0 => simp [lvls]
  | 1 => simp [lvls]; omega
  | 2 => simp [lvls]; omega
  | n + 3 => simp [lvls]; omega
theorem down_len {kd : Nat} : ∀ (l : List (List Nat × Int)), (∀ p ∈ l, p.2 ≤ 6) → (l.flatMap (downL kd)).length ≤ 7 * l.length
  | [], _ => by simp
  | p :: l, h => by
    have ih := down_len (kd := kd) l fun q hq => h q (.tail _ hq)
    have := h p (.head _)
    rw [List.flatMap_cons, List.length_append, List.length_cons]
    have e : (downL kd p).length = p.2.toNat + 1 := by unfold downL; simp
    omega
theorem dueKind_len {kd : Nat} {rows : List (Int × Int × Int)} (h : ∀ p ∈ hereL kd rows, HereOk p) (hl : (hereL kd rows).length ≤ 11) : (dueKind kd rows).length ≤ 110 := by
  unfold dueKind
  rw [List.length_append]
  have h1 := lvls_len (kd := kd) (here := hereL kd rows) 3
  have h2 := down_len (kd := kd) (sortP (lastL (hereL kd rows))) fun p hp => (last_bound h hp).2.2
  rw [sortP_len] at h2
  have h3 : (lastL (hereL kd rows)).length = (hereL kd rows).length := by unfold lastL; simp
  omega
theorem dueL_len {rows : List (Int × Int × Int)} (h : ∀ kd, ∀ p ∈ hereL kd rows, HereOk p) (hl : ∀ kd, (hereL kd rows).length ≤ 11) : ∀ n, (dueL rows n).length ≤ n * 110
  | 0 => by simp [dueL]
  | n + 1 => by
    rw [dueL_succ, List.length_append]
    have := dueL_len h hl n
    have := dueKind_len (h n) (hl n)
    omega

end Mine
end

section
open PySem PySem.W PySem.Calls PyProof.Rows Mine.hd
namespace Mine
local macro_rules | `(tactic| walk_at "go") => `(tactic| repeat' (first
  | (k_unfold; (try dsimp only))
  | ((fail_if_success (with_reducible first
      | show wpAny _ _ (exec (Stmt.While _ _ _ _) _) _ _ _
      | show wpAny _ _ (exec (Stmt.For _ _ _ _ _) _) _ _ _
      | show wpAny _ _ (pyIter _) _ _ _
      | show wpAny _ _ (assign (Expr.Tuple _ _ _) _ _) _ _ _
      | show wpAny _ _ (call (Value.type "enumerate") _ _) _ _ _
      | show wpAny _ _ (call (Value.builtin "str.join") _ _) _ _ _
      | show wpAny _ _ (call (Value.ref _) _ _) _ _ _
      | show wpAny _ _ (subscriptTail _ _ (Value.ref _) (Value.int _ _)) _ _ _
      | show wpAny _ _ (eval (Expr.Name (Str.ofString "signs") _) (compEnvC _ _ _ _)) _ _ _
      | show wpAny _ _ (eval (Expr.Name (Str.ofString "ahead") _) (compEnvC _ _ _ _)) _ _ _
      | show wpAny _ _ (eval (Expr.Name (Str.ofString "behind") _) (compEnvC _ _ _ _)) _ _ _
      | show wpAny _ _ (eval (Expr.Name (Str.ofString "mode") _) (compEnvC _ _ _ _)) _ _ _
      | show wpAny _ _ (newTuple _) _ _ _
      | show wpAny _ _ (storeName _ (Str.ofString "level") _) _ _ _
      | show wpAny _ _ (eval (Expr.Name (Str.ofString "level") _) _) _ _ _
      | show wpAny _ _ (eval (Expr.ListComp _ _ _ _) _) _ _ _
      | show wpAny _ _ (exec (Stmt.Assign _ (Expr.ListComp _ _ _ _) _) _) _ _ _
      | show wpAny _ _ (call (Value.builtin "sorted") _ _) _ _ _
      | show wpAny _ _ (newList _) _ _ _
      | show wpAny _ _ (setItem (Value.ref _) _ _) _ _ _
      | show wpAny _ _ (compareOp _ (Value.ref _) _) _ _ _
      | show wpAny _ _ (truthy (Value.ref _)) _ _ _
      | show wpAny _ _ (call (Value.builtin "list.pop") _ _) _ _ _
      | show wpAny _ _ (call (Value.builtin "list.append") _ _) _ _ _
      | show wpAny _ _ (call (Value.type "reversed") _ _) _ _ _
      | show wpAny _ _ (call (Value.type "range") _ _) _ _ _
      | show wpAny _ _ (call (Value.builtin "len") _ _) _ _ _)); (first | ((try dsimp only); walk1) | walk1))))


-- part DU
section
open PySem PySem.W PySem.Calls PyProof.Rows Mine.hd
set_option Elab.async false
set_option maxRecDepth 100000
set_option maxHeartbeats 8000000

theorem fill_DU : ∀ (w : World) (h : Heap), (heap_39 w.params).In h → PySem.Challenge.rw_op0076_01 = PySem.Challenge.rw_op0076_01 := by
  k_fill
  intros
  rfl
noncomputable def DUInv (c dl rl : Addr) (rows : List (Int × Int × Int)) (i : Nat) (m : Str → Option Value) (news : List (Addr × Obj)) : Prop :=
  ∃ v es, DS c dl v [] news es ∧ es.map Elt.dat = dueL rows i ∧ Pinned m [(Str.ofString "rows", .ref rl), (Str.ofString "due", .ref dl)]

noncomputable def DUrow (dl rl hl : Addr) (K : List (Addr × Obj)) (kd : Nat) (kt : Tok) (rows : List (Int × Int × Int)) (i : Nat) (m : Str → Option Value) (news : List (Addr × Obj)) : Prop :=
  ∃ hs n, (∀ p ∈ K, p ∈ news) ∧ (hl, listOf (List.map Hr.val hs).toArray n) ∈ news ∧ (∀ e ∈ hs, e.ent ∈ news) ∧ hs.map Hr.dat = hereL kd (rows.take i) ∧ Pinned m [(Str.ofString "rows", .ref rl), (Str.ofString "due", .ref dl), (Str.ofString "kind", .int kd kt), (Str.ofString "here", .ref hl)]

noncomputable def DUlev (c dl rl hl : Addr) (K : List (Addr × Obj)) (Is : List Addr) (kd : Nat) (kt : Tok) (done : List (Int × List Nat)) (here : List (List Nat × Int × Int)) (i : Nat) (m : Str → Option Value) (news : List (Addr × Obj)) : Prop :=
  ∃ v es, DS c dl v Is news es ∧ (∀ p ∈ K, p ∈ news) ∧ es.map Elt.dat = done ++ lvls kd here i ∧ Pinned m [(Str.ofString "rows", .ref rl), (Str.ofString "due", .ref dl), (Str.ofString "kind", .int kd kt), (Str.ofString "here", .ref hl)]

noncomputable def DUnow (K : List (Addr × Obj)) (lv : Int) (here : List (List Nat × Int × Int)) (i : Nat) (acc : List Value) (news : List (Addr × Obj)) : Prop :=
  ∃ sg, acc = List.map Sg.val sg ∧ (∀ p ∈ K, p ∈ news) ∧ (∀ e ∈ sg, e.ent ∈ news) ∧ sg.map Sg.key = nowL lv (here.take i)
theorem DUnow.keep {K : List (Addr × Obj)} {lv : Int} {here : List (List Nat × Int × Int)} {i : Nat} {acc : List Value} {news : List (Addr × Obj)} (d : DUnow K lv here i acc news) : ∀ p ∈ K, p ∈ news := by
  obtain ⟨_, _, h, _⟩ := d; exact h
theorem DUnow.len {K : List (Addr × Obj)} {lv : Int} {here : List (List Nat × Int × Int)} (i : Nat) (acc : List Value) (news : List (Addr × Obj)) (d : DUnow K lv here i acc news) : acc.length ≤ i := by
  obtain ⟨sg, rfl, _, _, h⟩ := d
  have e := congrArg List.length h
  simp only [List.length_map, nowL] at e ⊢
  have e2 := List.length_filter_le (fun h : List Nat × Int × Int => decide (h.2.1 ≥ lv)) (List.take i here)
  simp only [List.length_take] at e2
  omega
noncomputable def DUlast (K : List (Addr × Obj)) (here : List (List Nat × Int × Int)) (i : Nat) (acc : List Value) (news : List (Addr × Obj)) : Prop :=
  ∃ sg, acc = List.map Sg.val sg ∧ (∀ p ∈ K, p ∈ news) ∧ (∀ e ∈ sg, e.ent ∈ news) ∧ sg.map Sg.key = lastL (here.take i)
theorem DUlast.keep {K : List (Addr × Obj)} {here : List (List Nat × Int × Int)} {i : Nat} {acc : List Value} {news : List (Addr × Obj)} (d : DUlast K here i acc news) : ∀ p ∈ K, p ∈ news := by
  obtain ⟨_, _, h, _⟩ := d; exact h
theorem DUlast.len {K : List (Addr × Obj)} {here : List (List Nat × Int × Int)} (i : Nat) (acc : List Value) (news : List (Addr × Obj)) (d : DUlast K here i acc news) : acc.length ≤ i := by
  obtain ⟨sg, rfl, _, _, h⟩ := d
  have e := congrArg List.length h
  simp only [List.length_map, lastL, List.length_take] at e ⊢
  omega

theorem max_ite {a b : Int} {t u : Tok} : (if b > a then Value.int b u else .int a t) = .int (max a b) (if b > a then u else t) := by
  by_cases h : b > a
  · rw [if_pos h, if_pos h, Int.max_def, if_pos (by omega)]
  · rw [if_neg h, if_neg h, Int.max_def]
    split
    · rw [show a = b by omega]
    · rfl


noncomputable def DUso (c dl rl hl : Addr) (v : Option Value) (K : List (Addr × Obj)) (Is : List Addr) (kd lv : Nat) (kt : Tok) (done : List (Int × List Nat)) (out : List (List Nat × Int)) (i : Nat) (m : Str → Option Value) (news : List (Addr × Obj)) : Prop :=
  ∃ es, DS c dl v Is news es ∧ (∀ p ∈ K, p ∈ news) ∧ es.map Elt.dat = done ++ (out.take i).map (lvlOf kd lv) ∧ Pinned m [(Str.ofString "rows", .ref rl), (Str.ofString "due", .ref dl), (Str.ofString "kind", .int kd kt), (Str.ofString "here", .ref hl)]
theorem out_keys {out sg : List Sg} {l : List (List Nat × Int)} (hp : out.Perm sg) (hs : out.Pairwise fun a b => pairLt b.key a.key = false) (hk : sg.map Sg.key = l) : out.map Sg.key = sortP l :=
  sortP_eq (hk ▸ hp.map _) (List.pairwise_map.mpr hs)

noncomputable def DUla (c dl rl hl : Addr) (K : List (Addr × Obj)) (Is : List Addr) (kd : Nat) (kt : Tok) (done : List (Int × List Nat)) (out : List (List Nat × Int)) (i : Nat) (m : Str → Option Value) (news : List (Addr × Obj)) : Prop :=
  ∃ v es, DS c dl v Is news es ∧ (∀ p ∈ K, p ∈ news) ∧ es.map Elt.dat = done ++ (out.take i).flatMap (downL kd) ∧ Pinned m [(Str.ofString "rows", .ref rl), (Str.ofString "due", .ref dl), (Str.ofString "kind", .int kd kt), (Str.ofString "here", .ref hl)]
noncomputable def DUle (c dl rl hl : Addr) (K : List (Addr × Obj)) (Is : List Addr) (kd : Nat) (kt : Tok) (done : List (Int × List Nat)) (x : Str) (xt : Tok) (p : List Nat × Int) (i : Nat) (m : Str → Option Value) (news : List (Addr × Obj)) : Prop :=
  ∃ v es, DS c dl v Is news es ∧ (∀ p ∈ K, p ∈ news) ∧ es.map Elt.dat = done ++ (List.range i).map (leftOf kd p) ∧ Pinned m [(Str.ofString "rows", .ref rl), (Str.ofString "due", .ref dl), (Str.ofString "kind", .int kd kt), (Str.ofString "here", .ref hl), (Str.ofString "signs", .str x xt)]

theorem lawdue_spec {w : World} {A : Around} {E : Value → Shared → Prop} {s : Shared} {base : Heap} {mean : ExcName → Option Value} {mg mb : Str → Option Value}
  {Q : Value → Shared → Prop} {rl : Addr} {rs : List Row} {rn : Nat}
  (X : (heap_39 w.params).In base) (T : Tp mean mg mb base) (st : base.StaysIn s.heap)
  (hl : s.heap.get? rl = some (listOf (List.map Row.val rs).toArray rn)) (hrs : ∀ r ∈ rs, s.heap.get? r.a = some r.obj) (hlen : rs.length ≤ 11)
  (hrb : ∀ r ∈ rs, 0 ≤ r.md ∧ r.md < 2 ^ 20 ∧ 0 ≤ r.ah ∧ r.ah ≤ 3 ∧ 0 ≤ r.bh ∧ r.bh ≤ 3)
  (hH : A.handled = none) (hA : A.depth + 90 < recursionLimit) (hU : A.units + 150 < cLine)
  (h : ∀ h' tk' dl es n, s.heap.StaysIn h' → h'.get? dl = some (listOf (List.map Elt.val es).toArray n) → (∀ e ∈ es, h'.get? e.a = some e.obj) → es.map Elt.dat = dueL (rs.map Row.dat) 16 → Q (.ref dl) {s with heap := h', toks := tk'}) :
   wpAny (model P w) A (call (.ref 122) [.ref rl]) Q E s := by
  refine' enter0C (binds := [(Str.ofString "rows", .ref rl)]) X T st ?k6 ?k7 ?k8 ?k9 ?kB ?kD ?_ ?c2 ?c3 ?c4; (case k6 => k_is); (case k7 => k_is); (case k8 => omega); (case k9 => exact BindsTo.of_eq rfl); (case kB => exact rfl); (case kD => decide +kernel); (case c2 => exact rfl); (case c3 => exact rfl); (case c4 => exact rfl)
  intro L' h₁ tk₁ cells F N Y Xg Tg
  have hhb0 : ∀ kd, ∀ p ∈ hereL kd (rs.map Row.dat), HereOk p := by
    intro kd p hp
    unfold hereL at hp
    obtain ⟨q, hq, rfl⟩ := List.mem_map.mp hp
    obtain ⟨r, hr, rfl⟩ := List.mem_map.mp (List.mem_filter.mp hq).1
    obtain ⟨b1, b2, b3, b4, b5, b6⟩ := hrb r hr
    exact ⟨by show (sgn 3 r.md).cps.toList.length = 10; rw [Array.length_toList]; exact sgn_len 3 r.md, b3, b4, b5, b6⟩
  have hlh0 : ∀ kd, (hereL kd (rs.map Row.dat)).length ≤ 11 := by
    intro kd
    unfold hereL
    have e2 := List.length_filter_le (inKind kd) (List.map Row.dat rs)
    simp only [List.length_map] at e2 ⊢
    omega
  have hdl0 := dueL_len hhb0 hlh0
  obtain ⟨co, rfl, hco⟩ := CellsAre.one Y
  (try dsimp only)
  (try k_fold)
  walk_at "go"
  refine new_lst F N (by simp) ?_
  intro h2 dl F2 N2 hdl _
  walk_at "go"
  refine for_start ?_
  walk_at "go"
  rename_i F3 N3
  refine range1_rows F3 N3 ?_
  intro h4 tk4 u1 u2 u3 hr F4 N4 _
  refine wpAny_pyIter_range hr (small_up (r := 16) (by decide)).1 ?_
  refine for_rangeiter (a := 0) (c := 1) (cnt := 16) (by exact hH) (DUInv (L' + 1) dl rl (rs.map Row.dat)) (Heap.get?_push_size _ rfl) (F4.push _) (news_push N4 _) (fresh_of F4).1 (fresh_of F4).2 (off_of N4) ⟨_, [], ⟨⟨co, .tail _ (.head _), hco⟩, ⟨0, .head _⟩, (fun _ he => nomatch he), (fun _ he => nomatch he)⟩, rfl, rfl, rfl, trivial⟩ ?_ ?_ TgtOk.name
  · generalize ({ s with heap := h4, toks := tk4 } : Shared).heap.objs.size = I
    rintro i t m news o h5 tk5 hi ⟨v, es, D0, hdat, hm⟩ hoff F5 N5
    have D1 := (D0.add hoff).mono (news' := (I, o) :: news) fun p hp => .tail _ hp
    rw [show (0 : Int) + (i : Int) * 1 = (i : Int) by omega]
    replace F5 := Fr.pins F5 hm
    walk_at "go"
    rename_i F6 N6
    refine new_lst F6 N6 (by simp) ?_
    intro h7 hl7 F7 N7 hd7 _
    have D2 := ((D1.add hd7).mono (news' := (hl7, listOf #[] 0) :: (I, o) :: news) fun p hp => .tail _ hp)
    walk_at "go"
    refine for_start ?_
    walk_at "go"
    rename_i F8 N8
    refine for_list (vs := List.map Row.val rs) (by exact hH) (DUrow dl rl hl7 ((I, o) :: news) i t (rs.map Row.dat)) ⟨_, F8.keep _ _ hl, rfl, rn, rfl⟩ (.inl ⟨_, hl⟩) F8 N8 ⟨[], 0, fun p hp => .tail _ hp, .head _, (fun _ he => nomatch he), rfl, ?_⟩ ?_ ?_ TgtOk.tup
    · exact ⟨rfl, rfl, rfl, rfl, trivial⟩
    · rintro j v9 m9 news9 I9 o9 h9 tk9 hj hv9 ⟨hs, nh, hK, hhl, hhs, hhd, hm9⟩ hoff9 F9 N9
      have hj' : j < rs.length := by simpa using hj
      rw [List.getElem?_map, List.getElem?_eq_getElem hj'] at hv9
      obtain rfl := Option.some.inj hv9
      generalize hre : rs[j] = r
      have hrm : r ∈ rs := by rw [← hre]; exact List.getElem_mem hj'
      obtain ⟨b1, b2, b3, b4, b5, b6⟩ := hrb r hrm
      replace F9 := Fr.pins F9 hm9
      replace N9 := news_sub (news' := (hl7, listOf (List.map Hr.val hs).toArray nh) :: (I9, o9) :: news9) N9 (fun p hp => (List.mem_cons.mp hp).elim (fun e => e ▸ .tail _ hhl) id)
      refine unpack3 (by exact hH) (⟨_, F9.keep _ _ (hrs r hrm), rfl, 0, rfl⟩) F9 N9 ?_
      intro h10 F10 N10
      walk_at "go"
      · rename_i F11 N11 _ hkd
        refine lawsigns_spec X T (fun b o e => F11.keep b o (st b o e)) (by exact hH) (by show A.depth + 1 + 60 < _; omega) (by show A.units + _ + 90 < _; omega) b1 b2 ?_
        intro h12 tk12 t12 st12
        have F12 := fr_ext F11 st12
        have N12 := news_ext N11 st12
        walk_at "go"
        refine new_tup F12 N12 (by simp) ?_
        intro h13 a13 F13 N13 hd13 _
        obtain ⟨e13, rfl, hde, N13⟩ : ∃ e : Hr, e.a = a13 ∧ e.dat = hereOf r.dat ∧ News s.heap L' h13 (e.ent :: (hl7, listOf (List.map Hr.val hs).toArray nh) :: (I9, o9) :: news9) := ⟨⟨a13, sgn 3 r.md, r.ah, r.bh, t12, r.t2, r.t3⟩, rfl, rfl, N13⟩
        walk_at "go"
        have hln : hs.length ≤ 11 := by
          have e := congrArg List.length hhd
          simp only [List.length_map, hereL] at e
          have e2 := List.length_filter_le (inKind i) (List.take j (List.map Row.dat rs))
          simp only [List.length_take, List.length_map] at e2
          omega
        refine app_mem F13 N13 (.tail _ (.head _)) (by rw [List.length_map]; omega) ?_
        intro h14 F14 N14
        walk_at "go"
        have hI9 : (hl7 : Addr) ≠ I9 := hoff9 _ hhl
        refine forP_next F14 N14 (upd_mem (.tail _ (.tail _ (.head _))) (Ne.symm hI9)) ⟨hs ++ [e13], nh + 1, ?_, ?_, ?_, ?_, rfl, rfl, rfl, rfl, trivial⟩
        · exact offI_keep (upd_sub (fun p hp => .tail _ (.tail _ (.tail _ (hK p hp)))) hd7) (fun p hp => hoff9 p (hK p hp))
        · rw [List.map_append]
          exact mem_offI upd_self hI9
        · have hall : ∀ e ∈ hs ++ [e13], e.ent ∈ e13.ent :: (hl7, listOf (List.map Hr.val hs).toArray nh) :: (I9, o9) :: news9 := fun e he => by
            rcases List.mem_append.mp he with q | q
            · exact .tail _ (.tail _ (.tail _ (hhs e q)))
            · rw [List.mem_singleton.mp q]; exact .head _
          intro e he
          refine mem_offI (upd_mem (hall e he) (news_ne N13 (hall e he) (.tail _ (.head _)) tup_list)) ?_
          rcases List.mem_append.mp he with q | q
          · exact hoff9 _ (hhs e q)
          · rw [List.mem_singleton.mp q]; exact Ne.symm (hd13 (I9, o9) (.tail _ (.head _)))
        · rw [take_snoc? (x := r.dat) (by rw [List.getElem?_map, List.getElem?_eq_getElem hj', hre]; rfl), hereL_snoc, List.map_append, hhd, if_pos (by unfold inKind; rw [show r.dat.1 = r.md from rfl, hkd]; exact beq_self_eq_true _)]
          simp [hde]
      · rename_i F11 N11 _ hkd
        refine forP_next F11 N11 (.tail _ (.head _)) ⟨hs, nh, offI_keep (fun p hp => .tail _ (.tail _ (hK p hp))) (fun p hp => hoff9 p (hK p hp)), mem_offI (.head _) (hoff9 _ hhl), fun e he => mem_offI (.tail _ (.tail _ (hhs e he))) (hoff9 _ (hhs e he)), ?_, rfl, rfl, rfl, rfl, trivial⟩
        rw [take_snoc? (x := r.dat) (by rw [List.getElem?_map, List.getElem?_eq_getElem hj', hre]; rfl), hereL_snoc, hhd, if_neg (by unfold inKind; rw [show r.dat.1 = r.md from rfl]; simpa using hkd)]
        simp
    · rintro m9 news9 h9 tk9 ⟨hs, nh, hK, hhl, hhs, hhd, hm9⟩ F9 N9
      rw [List.length_map, show rs.length = (List.map Row.dat rs).length by simp, List.take_length] at hhd
      have D3 := (D1.add hd7).mono hK
      have hhb := hhb0 i
      have hlh : hs.length ≤ 11 := by
        have e := congrArg List.length hhd
        have e2 := hlh0 i
        rw [← e, List.length_map] at e2
        exact e2
      replace F9 := Fr.pins F9 hm9
      walk_at "go"
      refine for_start ?_
      walk_at "go"
      refine new_lst F9 N9 (by simp) ?_
      intro h10 ll F10 N10 hd10 _
      have hKd : ∀ p ∈ (ll, listOf [Value.int 3 tk9, Value.int 2 (tk9 + 1), Value.int 1 (tk9 + 1 + 1)].toArray 0) :: (I, o) :: (hl7, listOf (List.map Hr.val hs).toArray nh) :: hs.map Hr.ent, p.1 ≠ dl ∧ p.1 ≠ L' + 1 := by
        obtain ⟨⟨co', hc1, hc2⟩, ⟨n', hl1⟩, _, hof⟩ := D3
        intro p hp
        rcases List.mem_cons.mp hp with rfl | hp
        · exact ⟨Ne.symm (hd10 _ hl1), Ne.symm (hd10 _ hc1)⟩
        rcases List.mem_cons.mp hp with rfl | hp
        · exact ⟨Ne.symm (hof I (.tail _ (.head _))).2.1, Ne.symm (hof I (.tail _ (.head _))).1⟩
        rcases List.mem_cons.mp hp with rfl | hp
        · exact ⟨Ne.symm (hof hl7 (.head _)).2.1, Ne.symm (hof hl7 (.head _)).1⟩
        · obtain ⟨e, he, rfl⟩ := List.mem_map.mp hp
          exact ⟨news_ne N9 (hhs e he) hl1 tup_list, Ne.symm (news_ne N9 hc1 (hhs e he) (cell_tup hc2))⟩
      have hKs : ∀ p ∈ (ll, listOf [Value.int 3 tk9, Value.int 2 (tk9 + 1), Value.int 1 (tk9 + 1 + 1)].toArray 0) :: (I, o) :: (hl7, listOf (List.map Hr.val hs).toArray nh) :: hs.map Hr.ent, p ∈ (ll, listOf [Value.int 3 tk9, Value.int 2 (tk9 + 1), Value.int 1 (tk9 + 1 + 1)].toArray 0) :: news9 := by
        intro p hp
        rcases List.mem_cons.mp hp with rfl | hp
        · exact .head _
        rcases List.mem_cons.mp hp with rfl | hp
        · exact .tail _ (hK _ (.head _))
        rcases List.mem_cons.mp hp with rfl | hp
        · exact .tail _ hhl
        · obtain ⟨e, he, rfl⟩ := List.mem_map.mp hp
          exact .tail _ (hhs e he)
      generalize hKe : (ll, listOf [Value.int 3 tk9, Value.int 2 (tk9 + 1), Value.int 1 (tk9 + 1 + 1)].toArray 0) :: (I, o) :: (hl7, listOf (List.map Hr.val hs).toArray nh) :: hs.map Hr.ent = K at hKd hKs
      have hKI : (I, o) ∈ K := hKe ▸ .tail _ (.head _)
      have hKh : (hl7, listOf (List.map Hr.val hs).toArray nh) ∈ K := hKe ▸ .tail _ (.tail _ (.head _))
      have hKe' : ∀ e ∈ hs, e.ent ∈ K := fun e he => hKe ▸ .tail _ (.tail _ (.tail _ (List.mem_map_of_mem he)))
      refine for_list (vs := [Value.int 3 tk9, Value.int 2 (tk9 + 1), Value.int 1 (tk9 + 1 + 1)]) (by exact hH) (DUlev (L' + 1) dl rl hl7 K [I] i t (dueL (rs.map Row.dat) i) (hereL i (rs.map Row.dat))) ⟨_, News.get N10 (.head _), rfl, 0, rfl⟩ (.inr ⟨listOf [Value.int 3 tk9, Value.int 2 (tk9 + 1), Value.int 1 (tk9 + 1 + 1)].toArray 0, ?_⟩) F10 N10
        ⟨v, es, (D3.mono fun p hp => .tail _ hp).less (fun x hx => .tail _ hx), hKs, by rw [hdat]; simp [lvls], rfl, rfl, rfl, rfl, trivial⟩ ?_ ?_ TgtOk.name
      · rintro j m11 news11 ⟨_, _, _, hK11, _⟩
        exact hK11 _ (hKe ▸ .head _)
      · rintro j v11 m11 news11 I11 o11 h11 tk11 hj hv11 ⟨v', es11, D11, hK11, hdat11, hm11⟩ hoff11 F11 N11
        obtain ⟨lv, t11, rfl, hlv, hlv1, hlv3⟩ : ∃ lv : Nat, ∃ t', v11 = .int lv t' ∧ [3, 2, 1][j]? = some lv ∧ 1 ≤ lv ∧ lv ≤ 3 := by
          match j, hj, hv11 with
          | 0, _, h => exact ⟨3, _, (Option.some.inj h).symm, rfl, by decide, by decide⟩
          | 1, _, h => exact ⟨2, _, (Option.some.inj h).symm, rfl, by decide, by decide⟩
          | 2, _, h => exact ⟨1, _, (Option.some.inj h).symm, rfl, by decide, by decide⟩
        have D12 := (D11.add hoff11).mono (news' := (I11, o11) :: news11) fun p hp => .tail _ hp
        replace F11 := Fr.pins F11 hm11
        walk_at "go"
        obtain ⟨co12, hco12, hcd12⟩ := D12.cell
        refine store_cell rfl rfl rfl F11 N11 hco12 hcd12 ?_
        intro h13 o13 F13 N13 hcd13
        replace D12 := D12.setc N11 hcd13
        have hK11' := hK11
        replace hK11 : ∀ p ∈ K, p ∈ upd (L' + 1) o13 ((I11, o11) :: news11) := upd_sub (fun p hp => .tail _ (hK11 p hp)) (fun p hp => (hKd p hp).2)
        have hKI11 : ∀ p ∈ K, p.1 ≠ I11 := fun p hp => hoff11 p (hK11' p hp)
        have hI11 : (I11, o11) ∈ upd (L' + 1) o13 ((I11, o11) :: news11) := upd_mem (.head _) (Ne.symm (D12.off I11 (.head _)).1)
        generalize upd (L' + 1) o13 ((I11, o11) :: news11) = news13 at D12 N13 hK11 hI11
        walk_at "go"
        refine comp_assign' (L := L') (g := s.heap) (cl := [(Str.ofString "level", L' + 1)]) (by exact hH) rfl rfl (by decide) (by decide) rfl rfl rfl rfl (DUnow news13 lv (hereL i (rs.map Row.dat))) DUnow.len TgtOk.tup ?_
        walk_at "go"
        refine ⟨hl7, List.map Hr.val hs, _, news13, rfl, ?_, .inr ⟨_, fun _ _ _ hJ => hJ.keep _ (hK11 _ hKh)⟩, ⟨_, News.get N13 (hK11 _ hKh), rfl, _, rfl⟩, F13, N13, ⟨[], rfl, fun p hp => hp, (fun _ he => nomatch he), rfl⟩, ?_, ?_⟩
        · rw [List.length_map]; omega
        · obtain ⟨coL, hcoL, hcdL⟩ := D12.cell
          intro C I14 D14 oL j14 v14 acc14 n14 mc14 news14 o14 h14 tk14 hj14 hv14 hJ14 hoff14 F14 N14
          obtain ⟨sg, rfl, hK14, hsg, hkey⟩ := hJ14
          have hj' : j14 < hs.length := by simpa using hj14
          rw [List.getElem?_map, List.getElem?_eq_getElem hj'] at hv14
          obtain rfl := Option.some.inj hv14
          generalize hre : hs[j14] = r
          have hrm : r ∈ hs := by rw [← hre]; exact List.getElem_mem hj'
          have hdr : (hereL i (rs.map Row.dat))[j14]? = some r.dat := by rw [← hhd, List.getElem?_map, List.getElem?_eq_getElem hj', hre]; rfl
          have hrN : r.ent ∈ news14 := hK14 _ (hK11 _ (hKe' r hrm))
          refine unpack3 (by exact hH) (⟨_, News.get N14 (.tail _ (.tail _ (.tail _ hrN))), rfl, 0, rfl⟩) F14 N14 ?_
          intro h15 F15 N15
          walk_at "go"
          refine store_here (L := C) rfl rfl F15 N15 ?_
          intro h16 F16 N16
          walk_at "go"
          refine store_here (L := C) rfl rfl F16 N16 ?_
          intro h17 F17 N17
          walk_at "go"
          refine store_here (L := C) rfl rfl F17 N17 ?_
          intro h18 F18 N18
          unfold testsOf
          walk_at "go"
          refine read_here (L := C) rfl rfl rfl F18 rfl ?_
          walk_at "go"
          refine read_cell rfl rfl rfl N18 (.tail _ (.tail _ (.tail _ (hK14 _ hcoL)))) hcdL ?_
          walk_at "go"
          · rename_i hge
            refine read_here (L := C) rfl rfl rfl F18 rfl ?_
            walk_at "go"
            refine read_here (L := C) rfl rfl rfl F18 rfl ?_
            walk_at "go"
            refine read_here (L := C) rfl rfl rfl F18 rfl ?_
            walk_at "go"
            refine read_cell rfl rfl rfl N18 (.tail _ (.tail _ (.tail _ (hK14 _ hcoL)))) hcdL ?_
            walk_at "go"
            refine max_two_ints (by exact hH) ?_
            intro h19 tk19 k19
            rw [max_ite]
            have F19 := fr_ext F18 k19
            have N19 := news_ext N18 k19
            walk_at "go"
            refine new_tup F19 N19 (by simp) ?_
            intro h20 a20 F20 N20 hd20 _
            obtain ⟨e20, rfl, hke, N20⟩ : ∃ e : Sg, e.a = a20 ∧ e.key = nowOf lv r.dat ∧ News s.heap C h20 (e.ent :: (I14, o14) :: (D14, listOf (List.map Sg.val sg).toArray n14) :: (L', oL) :: news14) := ⟨⟨a20, r.x, _, r.t1, _⟩, rfl, rfl, N20⟩
            refine compP_end F20 N20 (.tail _ (.head _)) (.tail _ (.tail _ (.head _))) (.tail _ (.tail _ (.tail _ (.head _)))) ⟨sg ++ [e20], by rw [List.map_append]; rfl, fun p hp => mem_off3 (.tail _ (.tail _ (.tail _ (.tail _ (hK14 p hp))))) (hoff14 p (hK14 p hp)), fun e he => ?_, ?_⟩
            · rcases List.mem_append.mp he with q | q
              · exact mem_off3 (.tail _ (.tail _ (.tail _ (.tail _ (hsg e q))))) (hoff14 _ (hsg e q))
              · rw [List.mem_singleton.mp q]
                exact mem_off3 (.head _) ⟨Ne.symm (hd20 _ (.head _)), Ne.symm (hd20 _ (.tail _ (.head _))), Ne.symm (hd20 _ (.tail _ (.tail _ (.head _))))⟩
            · rw [take_snoc? hdr, nowL_snoc, List.map_append, hkey, if_pos (by rw [decide_eq_true_eq]; exact hge)]
              simp [hke]
          · refine compP_end F18 N18 (.head _) (.tail _ (.head _)) (.tail _ (.tail _ (.head _))) ⟨sg, rfl, fun p hp => mem_off3 (.tail _ (.tail _ (.tail _ (hK14 p hp)))) (hoff14 p (hK14 p hp)), fun e he => mem_off3 (.tail _ (.tail _ (.tail _ (hsg e he)))) (hoff14 _ (hsg e he)), ?_⟩
            rename_i hge
            rw [take_snoc? hdr, nowL_snoc, hkey, if_neg (by rw [decide_eq_true_eq]; exact hge)]
            simp
        · intro D15 acc15 n15 news15 h15 tk15 hJ15 F15 N15 hoff15
          obtain ⟨sg, rfl, hK15, hsg, hkey⟩ := hJ15
          rw [List.length_map, show hs.length = (hereL i (List.map Row.dat rs)).length by rw [← hhd, List.length_map], List.take_length] at hkey
          dsimp only
          walk_at "go"
          refine for_start ?_
          walk_at "go"
          have D15' := D12.mono hK15
          have hlsg : sg.length ≤ 11 := by
            have e := congrArg List.length hkey
            simp only [List.length_map, nowL] at e
            have e2 := List.length_filter_le (fun h : List Nat × Int × Int => decide (h.2.1 ≥ (lv : Int))) (hereL i (List.map Row.dat rs))
            rw [← hhd] at e2
            simp only [List.length_map] at e2
            rw [← hhd] at e
            omega
          refine sorted_sg (es := sg) F15 N15 ⟨_, News.get N15 (.head _), rfl, _, rfl⟩ (fun e he => .tail _ (hsg e he)) (by omega) ?_
          intro D16 n16 h16 tk16 out F16 N16 hd16 hperm hpw
          have hout := out_keys hperm hpw hkey
          have hKs2 : ∀ p ∈ (D16, listOf (List.map Sg.val out).toArray n16) :: (I11, o11) :: (out.map Sg.ent ++ K), p ∈ (D16, listOf (List.map Sg.val out).toArray n16) :: (D15, listOf (List.map Sg.val sg).toArray n15) :: news15 := by
            intro p hp
            rcases List.mem_cons.mp hp with rfl | hp
            · exact .head _
            rcases List.mem_cons.mp hp with rfl | hp
            · exact .tail _ (.tail _ (hK15 _ hI11))
            rcases List.mem_append.mp hp with hp | hp
            · obtain ⟨e, he, rfl⟩ := List.mem_map.mp hp
              exact .tail _ (.tail _ (hsg e (hperm.mem_iff.mp he)))
            · exact .tail _ (.tail _ (hK15 _ (hK11 _ hp)))
          have hKd2 : ∀ p ∈ (D16, listOf (List.map Sg.val out).toArray n16) :: (I11, o11) :: (out.map Sg.ent ++ K), p.1 ≠ dl := by
            obtain ⟨n', hl1⟩ := D15'.lst
            intro p hp
            rcases List.mem_cons.mp hp with rfl | hp
            · exact Ne.symm (hd16 _ (.tail _ hl1))
            rcases List.mem_cons.mp hp with rfl | hp
            · exact Ne.symm (D15'.off I11 (.head _)).2.1
            rcases List.mem_append.mp hp with hp | hp
            · obtain ⟨e, he, rfl⟩ := List.mem_map.mp hp
              exact news_ne N15 (.tail _ (hsg e (hperm.mem_iff.mp he))) (.tail _ hl1) tup_list
            · exact (hKd p hp).1
          generalize hKe2 : (D16, listOf (List.map Sg.val out).toArray n16) :: (I11, o11) :: (out.map Sg.ent ++ K) = K2 at hKs2 hKd2
          walk_at "go"
          refine for_list (vs := List.map Sg.val out) (by exact hH) (DUso (L' + 1) dl rl hl7 (some (Value.int lv t11)) K2 [I11, I] i lv t (dueL (rs.map Row.dat) i ++ lvls i (hereL i (rs.map Row.dat)) j) (out.map Sg.key)) ⟨_, News.get N16 (.head _), rfl, _, rfl⟩ (.inr ⟨listOf (List.map Sg.val out).toArray n16, ?_⟩) F16 N16
            ⟨es11, D15'.mono (fun p hp => .tail _ (.tail _ hp)), hKs2, by rw [hdat11]; simp, rfl, rfl, rfl, rfl, trivial⟩ ?_ ?_ TgtOk.tup
          · rintro j' m' news' ⟨_, _, hK', _⟩
            exact hK' _ (hKe2 ▸ .head _)
          · rintro j17 v17 m17 news17 I17 o17 h17 tk17 hj17 hv17 ⟨es17, D17, hK17, hdat17, hm17⟩ hoff17 F17 N17
            have hj' : j17 < out.length := by simpa using hj17
            rw [List.getElem?_map, List.getElem?_eq_getElem hj'] at hv17
            obtain rfl := Option.some.inj hv17
            generalize hre : out[j17] = r
            have hrm : r ∈ out := by rw [← hre]; exact List.getElem_mem hj'
            have hrN : r.ent ∈ news17 := hK17 _ (hKe2 ▸ .tail _ (.tail _ (List.mem_append.mpr (.inl (List.mem_map_of_mem hrm)))))
            have D18 := (D17.add hoff17).mono (news' := (I17, o17) :: news17) fun p hp => .tail _ hp
            obtain ⟨nd, hdl17⟩ := D18.lst
            obtain ⟨coL, hcoL, hcdL⟩ := D18.cell
            replace F17 := Fr.pins F17 hm17
            replace N17 := news_sub (news' := (dl, listOf (List.map Elt.val es17).toArray nd) :: (I17, o17) :: news17) N17 (fun p hp => (List.mem_cons.mp hp).elim (fun e => e ▸ hdl17) id)
            refine unpack2 (by exact hH) (⟨_, News.get N17 (.tail _ (.tail _ hrN)), rfl, 0, rfl⟩) F17 N17 ?_
            intro h18 F18 N18
            walk_at "go"
            rename_i F19 N19
            have hrk : r.key ∈ sortP (nowL lv (hereL i (List.map Row.dat rs))) := hout ▸ List.mem_map_of_mem hrm
            obtain ⟨c1, c2, c3⟩ := now_bound hhb (by omega) (by omega) hrk
            have hxl : r.x.length = 10 := by rw [← c1]; exact (Array.length_toList).symm
            have hr0 : 0 ≤ r.r := c2
            have hr6 : r.r ≤ 6 := c3
            refine read_cell rfl rfl rfl N19 (.tail _ hcoL) hcdL ?_
            walk_at "go"
            refine new_tup F19 N19 (by simp) ?_
            intro h20 a20 F20 N20 hd20 _
            obtain ⟨e20, rfl, hke, N20⟩ : ∃ e : Elt, e.a = a20 ∧ e.dat = lvlOf i lv r.key ∧ News s.heap L' h20 (e.ent :: (dl, listOf (List.map Elt.val es17).toArray nd) :: (I17, o17) :: news17) := by
              refine ⟨⟨a20, _, _, _, _⟩, rfl, ?_, N20⟩
              simp only [Elt.dat, lvlOf, Str.cps_append, Array.toList_append, mul_marks, Sg.key, Int.toNat_natCast]
            walk_at "go"
            have hes : es17.length < 2 ^ 20 := by
              have e := congrArg List.length hdat17
              have e1 := hdl0 i
              have e2 := lvls_len (kd := i) (here := hereL i (rs.map Row.dat)) j
              have e3 := hlh0 i
              have e4 : out.length ≤ 11 := by rw [hperm.length_eq]; exact hlsg
              simp only [List.length_map, List.length_append, List.length_take] at e
              omega
            refine app_mem F20 N20 (.tail _ (.head _)) (by rw [List.length_map]; exact hes) ?_
            intro h21 F21 N21
            walk_at "go"
            have hsub : ∀ p ∈ (I17, o17) :: news17, p ∈ e20.ent :: (dl, listOf (List.map Elt.val es17).toArray nd) :: (I17, o17) :: news17 := fun p hp => .tail _ (.tail _ hp)
            have D19 := (D18.mono hsub).app (e := e20) (n := nd + 1) N20 (.head _) (fun x hx => by
              rcases List.mem_cons.mp hx with hx | hx
              · rw [hx]; exact Ne.symm (hd20 (I17, o17) (.tail _ (.head _)))
              rcases List.mem_cons.mp hx with hx | hx
              · rw [hx]; exact Ne.symm (hd20 (I11, o11) (.tail _ (.tail _ (hK17 _ (hKe2 ▸ .tail _ (.head _))))))
              rw [List.mem_singleton.mp hx]
              exact Ne.symm (hd20 (I, o) (.tail _ (.tail _ (hK17 _ (hKe2 ▸ .tail _ (.tail _ (List.mem_append.mpr (.inr hKI)))))))))
            refine forP_next F21 N21 (upd_mem (.tail _ (.tail _ (.head _))) (Ne.symm (D18.off I17 (.head _)).2.1)) ⟨es17 ++ [e20], D19.drop, ?_, ?_, rfl, rfl, rfl, rfl, trivial⟩
            · exact offI_keep (upd_sub (fun p hp => .tail _ (.tail _ (.tail _ (hK17 p hp)))) hKd2) (fun p hp => hoff17 p (hK17 p hp))
            · rw [take_snoc? (x := r.key) (by rw [List.getElem?_map, List.getElem?_eq_getElem hj', hre]; rfl), List.map_append, List.map_append, hdat17]
              simp [hke]
          · rintro m17 news17 h17 tk17 ⟨es17, D17, hK17, hdat17, hm17⟩ F17 N17
            walk_at "go"
            replace F17 := Fr.pins F17 hm17
            refine forP_next F17 N17 (hK17 _ (hKe2 ▸ .tail _ (.head _))) ⟨_, es17, D17.drop, offI_keep (fun p hp => hK17 p (hKe2 ▸ .tail _ (.tail _ (List.mem_append.mpr (.inr hp))))) hKI11, ?_, rfl, rfl, rfl, rfl, trivial⟩
            rw [hdat17, List.length_map, show out.length = (List.map Sg.key out).length by simp, List.take_length, hout, List.append_assoc]
            unfold lvls
            rw [take_snoc? hlv, flatMap_snoc]
            rfl
      · rintro m11 news11 h11 tk11 ⟨v', es11, D11, hK11, hdat11, hm11⟩ F11 N11
        replace F11 := Fr.pins F11 hm11
        walk_at "go"
        refine for_start ?_
        walk_at "go"
        refine comp_eval' (L := L') (g := s.heap) (cl := []) (by exact hH) rfl rfl (by decide) (by decide) (DUlast news11 (hereL i (rs.map Row.dat))) DUlast.len TgtOk.tup ?_
        walk_at "go"
        refine ⟨hl7, List.map Hr.val hs, _, news11, rfl, ?_, .inr ⟨_, fun _ _ _ hJ => hJ.keep _ (hK11 _ hKh)⟩, ⟨_, News.get N11 (hK11 _ hKh), rfl, _, rfl⟩, F11, N11, ⟨[], rfl, fun p hp => hp, (fun _ he => nomatch he), rfl⟩, ?_, ?_⟩
        · rw [List.length_map]; omega
        · intro C I14 D14 oL j14 v14 acc14 n14 mc14 news14 o14 h14 tk14 hj14 hv14 hJ14 hoff14 F14 N14
          obtain ⟨sg, rfl, hK14, hsg, hkey⟩ := hJ14
          have hj' : j14 < hs.length := by simpa using hj14
          rw [List.getElem?_map, List.getElem?_eq_getElem hj'] at hv14
          obtain rfl := Option.some.inj hv14
          generalize hre : hs[j14] = r
          have hrm : r ∈ hs := by rw [← hre]; exact List.getElem_mem hj'
          have hdr : (hereL i (rs.map Row.dat))[j14]? = some r.dat := by rw [← hhd, List.getElem?_map, List.getElem?_eq_getElem hj', hre]; rfl
          have hrN : r.ent ∈ news14 := hK14 _ (hK11 _ (hKe' r hrm))
          refine unpack3 (by exact hH) (⟨_, News.get N14 (.tail _ (.tail _ (.tail _ hrN))), rfl, 0, rfl⟩) F14 N14 ?_
          intro h15 F15 N15
          walk_at "go"
          refine store_here (L := C) rfl rfl F15 N15 ?_
          intro h16 F16 N16
          walk_at "go"
          refine store_here (L := C) rfl rfl F16 N16 ?_
          intro h17 F17 N17
          walk_at "go"
          refine store_here (L := C) rfl rfl F17 N17 ?_
          intro h18 F18 N18
          unfold testsOf
          walk_at "go"
          refine read_here (L := C) rfl rfl rfl F18 rfl ?_
          walk_at "go"
          refine read_here (L := C) rfl rfl rfl F18 rfl ?_
          walk_at "go"
          refine read_here (L := C) rfl rfl rfl F18 rfl ?_
          walk_at "go"
          refine max_two_ints (by exact hH) ?_
          intro h19 tk19 k19
          rw [max_ite]
          have F19 := fr_ext F18 k19
          have N19 := news_ext N18 k19
          walk_at "go"
          refine new_tup F19 N19 (by simp) ?_
          intro h20 a20 F20 N20 hd20 _
          obtain ⟨e20, rfl, hke, N20⟩ : ∃ e : Sg, e.a = a20 ∧ e.key = lastOf r.dat ∧ News s.heap C h20 (e.ent :: (I14, o14) :: (D14, listOf (List.map Sg.val sg).toArray n14) :: (L', oL) :: news14) := ⟨⟨a20, r.x, _, r.t1, _⟩, rfl, rfl, N20⟩
          refine compP_end F20 N20 (.tail _ (.head _)) (.tail _ (.tail _ (.head _))) (.tail _ (.tail _ (.tail _ (.head _)))) ⟨sg ++ [e20], by rw [List.map_append]; rfl, fun p hp => mem_off3 (.tail _ (.tail _ (.tail _ (.tail _ (hK14 p hp))))) (hoff14 p (hK14 p hp)), fun e he => ?_, ?_⟩
          · rcases List.mem_append.mp he with q | q
            · exact mem_off3 (.tail _ (.tail _ (.tail _ (.tail _ (hsg e q))))) (hoff14 _ (hsg e q))
            · rw [List.mem_singleton.mp q]
              exact mem_off3 (.head _) ⟨Ne.symm (hd20 _ (.head _)), Ne.symm (hd20 _ (.tail _ (.head _))), Ne.symm (hd20 _ (.tail _ (.tail _ (.head _))))⟩
          · rw [take_snoc? hdr, lastL_snoc, List.map_append, hkey]
            simp [hke]
        · intro D15 acc15 n15 news15 h15 tk15 hJ15 F15 N15 hoff15
          obtain ⟨sg, rfl, hK15, hsg, hkey⟩ := hJ15
          rw [List.length_map, show hs.length = (hereL i (List.map Row.dat rs)).length by rw [← hhd, List.length_map], List.take_length] at hkey
          dsimp only
          walk_at "go"
          have D15' := D11.mono hK15
          have hlsg : sg.length ≤ 11 := by
            have e := congrArg List.length hkey
            simp only [List.length_map, lastL] at e
            have e2 := hlh0 i
            omega
          refine sorted_sg (es := sg) F15 N15 ⟨_, News.get N15 (.head _), rfl, _, rfl⟩ (fun e he => .tail _ (hsg e he)) (by omega) ?_
          intro D16 n16 h16 tk16 out F16 N16 hd16 hperm hpw
          have hout := out_keys hperm hpw hkey
          have hKs2 : ∀ p ∈ (D16, listOf (List.map Sg.val out).toArray n16) :: (I, o) :: out.map Sg.ent, p ∈ (D16, listOf (List.map Sg.val out).toArray n16) :: (D15, listOf (List.map Sg.val sg).toArray n15) :: news15 := by
            intro p hp
            rcases List.mem_cons.mp hp with rfl | hp
            · exact .head _
            rcases List.mem_cons.mp hp with rfl | hp
            · exact .tail _ (.tail _ (hK15 _ (hK11 _ hKI)))
            obtain ⟨e, he, rfl⟩ := List.mem_map.mp hp
            exact .tail _ (.tail _ (hsg e (hperm.mem_iff.mp he)))
          have hKd2 : ∀ p ∈ (D16, listOf (List.map Sg.val out).toArray n16) :: (I, o) :: out.map Sg.ent, p.1 ≠ dl := by
            obtain ⟨n', hl1⟩ := D15'.lst
            intro p hp
            rcases List.mem_cons.mp hp with rfl | hp
            · exact Ne.symm (hd16 _ (.tail _ hl1))
            rcases List.mem_cons.mp hp with rfl | hp
            · exact Ne.symm (D15'.off I (.head _)).2.1
            obtain ⟨e, he, rfl⟩ := List.mem_map.mp hp
            exact news_ne N15 (.tail _ (hsg e (hperm.mem_iff.mp he))) (.tail _ hl1) tup_list
          generalize hKe2 : (D16, listOf (List.map Sg.val out).toArray n16) :: (I, o) :: out.map Sg.ent = K2 at hKs2 hKd2
          walk_at "go"
          refine for_list (vs := List.map Sg.val out) (by exact hH) (DUla (L' + 1) dl rl hl7 K2 [I] i t (dueL (rs.map Row.dat) i ++ lvls i (hereL i (rs.map Row.dat)) 3) (out.map Sg.key)) ⟨_, News.get N16 (.head _), rfl, _, rfl⟩ (.inr ⟨listOf (List.map Sg.val out).toArray n16, ?_⟩) F16 N16
            ⟨v', es11, D15'.mono (fun p hp => .tail _ (.tail _ hp)), hKs2, by rw [hdat11]; simp, rfl, rfl, rfl, rfl, trivial⟩ ?_ ?_ TgtOk.tup
          · rintro j' m' news' ⟨_, _, _, hK', _⟩
            exact hK' _ (hKe2 ▸ .head _)
          · rintro j17 v17 m17 news17 I17 o17 h17 tk17 hj17 hv17 ⟨v17', es17, D17, hK17, hdat17, hm17⟩ hoff17 F17 N17
            have hj' : j17 < out.length := by simpa using hj17
            rw [List.getElem?_map, List.getElem?_eq_getElem hj'] at hv17
            obtain rfl := Option.some.inj hv17
            generalize hre : out[j17] = r
            have hrm : r ∈ out := by rw [← hre]; exact List.getElem_mem hj'
            have hrN : r.ent ∈ news17 := hK17 _ (hKe2 ▸ .tail _ (.tail _ (List.mem_map_of_mem hrm)))
            have D18 := (D17.add hoff17).mono (news' := (I17, o17) :: news17) fun p hp => .tail _ hp
            have hrk : r.key ∈ sortP (lastL (hereL i (List.map Row.dat rs))) := hout ▸ List.mem_map_of_mem hrm
            obtain ⟨c1, c2, c3⟩ := last_bound hhb hrk
            have hxl : r.x.length = 10 := by rw [← c1]; exact (Array.length_toList).symm
            have hr0 : 0 ≤ r.r := c2
            have hr6 : r.r ≤ 6 := c3
            replace F17 := Fr.pins F17 hm17
            refine unpack2 (by exact hH) (⟨_, News.get N17 (.tail _ hrN), rfl, 0, rfl⟩) F17 N17 ?_
            intro h18 F18 N18
            walk_at "go"
            refine for_start ?_
            walk_at "go"
            rename_i F19 N19
            refine range3_rows F19 N19 (by decide) ?_ (Or.inl (PyProof.noPylong_small (by decide)))
            intro h20 tk20 u20 v20 w20 hr20 F20 N20 _
            obtain ⟨q, hq⟩ : ∃ q : Nat, r.r = (q : Int) := ⟨r.r.toNat, by omega⟩
            have hsd := small_down (r := q) (by omega)
            rw [hq] at hr20
            refine wpAny_pyIter_range hr20 hsd.1 ?_
            rw [hsd.2]
            refine for_rangeiter (a := (q : Int)) (c := -1) (cnt := q + 1) (by exact hH) (DUle (L' + 1) dl rl hl7 ((I17, o17) :: K2) [I17, I] i t (dueL (rs.map Row.dat) i ++ lvls i (hereL i (rs.map Row.dat)) 3 ++ ((out.map Sg.key).take j17).flatMap (downL i)) r.x r.tx r.key) (Heap.get?_push_size _ rfl) (F20.push _) (news_push N20 _) (fresh_of F20).1 (fresh_of F20).2 (off_of N20)
              ⟨v17', es17, D18, fun p hp => (List.mem_cons.mp hp).elim (fun e => e ▸ .head _) (fun hp => .tail _ (hK17 p hp)), by rw [hdat17]; simp, rfl, rfl, rfl, rfl, rfl, trivial⟩ ?_ ?_ TgtOk.name
            · generalize ({ s with heap := h20, toks := tk20 } : Shared).heap.objs.size = I21
              rintro j21 t21 m21 news21 o21 h21 tk21 hj21 ⟨v21, es21, D21, hK21, hdat21, hm21⟩ hoff21 F21 N21
              rw [show (q : Int) + (j21 : Int) * -1 = ((q - j21 : Nat) : Int) by omega]
              replace F21 := Fr.pins F21 hm21
              have D22 := (D21.add hoff21).mono (news' := (I21, o21) :: news21) fun p hp => .tail _ hp
              obtain ⟨nd, hdl21⟩ := D22.lst
              replace N21 := news_sub (news' := (dl, listOf (List.map Elt.val es21).toArray nd) :: (I21, o21) :: news21) N21 (fun p hp => (List.mem_cons.mp hp).elim (fun e => e ▸ hdl21) id)
              walk_at "go"
              rename_i F22 N22 _ _ _ _ _ _ _
              refine new_tup F22 N22 (by simp) ?_
              intro h23 a23 F23 N23 hd23 _
              obtain ⟨e23, rfl, hke, N23⟩ : ∃ e : Elt, e.a = a23 ∧ e.dat = leftOf i r.key j21 ∧ News s.heap L' h23 (e.ent :: (dl, listOf (List.map Elt.val es21).toArray nd) :: (I21, o21) :: news21) := by
                refine ⟨⟨a23, _, _, _, _⟩, rfl, ?_, N23⟩
                simp only [Elt.dat, leftOf, Str.cps_append, Array.toList_append, mul_marks, Sg.key, Int.toNat_natCast, hq]
              walk_at "go"
              have hes : es21.length < 2 ^ 20 := by
                have e := congrArg List.length hdat21
                have e1 := hdl0 i
                have e2 := lvls_len (kd := i) (here := hereL i (rs.map Row.dat)) 3
                have e3 := hlh0 i
                have e4 : out.length ≤ 11 := by rw [hperm.length_eq]; exact hlsg
                have e5 := down_len (kd := i) ((out.map Sg.key).take j17) fun p hp => (last_bound hhb (hout ▸ List.mem_of_mem_take hp)).2.2
                simp only [List.length_map, List.length_append, List.length_take, List.length_range] at e e5
                omega
              refine app_mem F23 N23 (.tail _ (.head _)) (by rw [List.length_map]; exact hes) ?_
              intro h24 F24 N24
              walk_at "go"
              have hsub : ∀ p ∈ (I21, o21) :: news21, p ∈ e23.ent :: (dl, listOf (List.map Elt.val es21).toArray nd) :: (I21, o21) :: news21 := fun p hp => .tail _ (.tail _ hp)
              have D23 := (D22.mono hsub).app (e := e23) (n := nd + 1) N23 (.head _) (fun x hx => by
                rcases List.mem_cons.mp hx with hx | hx
                · rw [hx]; exact Ne.symm (hd23 (I21, o21) (.tail _ (.head _)))
                rcases List.mem_cons.mp hx with hx | hx
                · rw [hx]; exact Ne.symm (hd23 (I17, o17) (.tail _ (.tail _ (hK21 _ (.head _)))))
                rw [List.mem_singleton.mp hx]
                exact Ne.symm (hd23 (I, o) (.tail _ (.tail _ (hK21 _ (.tail _ (hKe2 ▸ .tail _ (.head _))))))))
              refine forP_next F24 N24 (upd_mem (.tail _ (.tail _ (.head _))) (Ne.symm (D22.off I21 (.head _)).2.1)) ⟨v21, es21 ++ [e23], D23.drop, ?_, ?_, rfl, rfl, rfl, rfl, rfl, trivial⟩
              · refine offI_keep (upd_sub (fun p hp => .tail _ (.tail _ (.tail _ (hK21 p hp)))) fun p hp => ?_) (fun p hp => hoff21 p (hK21 p hp))
                rcases List.mem_cons.mp hp with rfl | hp
                · exact Ne.symm (D22.off I17 (.tail _ (.head _))).2.1
                · exact hKd2 p hp
              · rw [List.range_succ, List.map_append, List.map_append, hdat21]
                simp [hke]
            · rintro m21 news21 h21 tk21 ⟨v21, es21, D21, hK21, hdat21, hm21⟩ F21 N21
              walk_at "go"
              replace F21 := Fr.pins F21 hm21
              refine forP_next F21 N21 (hK21 _ (.head _)) ⟨v21, es21, D21.drop, offI_keep (fun p hp => hK21 p (.tail _ hp)) (fun p hp => hoff17 p (hK17 p hp)), ?_, rfl, rfl, rfl, rfl, trivial⟩
              rw [hdat21, take_snoc? (x := r.key) (by rw [List.getElem?_map, List.getElem?_eq_getElem hj', hre]; rfl), flatMap_snoc, ← List.append_assoc]
              congr 1
              unfold downL
              rw [show r.key.2.toNat = q by show r.r.toNat = q; omega]
          · rintro m17 news17 h17 tk17 ⟨v17', es17, D17, hK17, hdat17, hm17⟩ F17 N17
            walk_at "go"
            replace F17 := Fr.pins F17 hm17
            refine forP_next F17 N17 (hK17 _ (hKe2 ▸ .tail _ (.head _))) ⟨_, es17, D17.drop, ?_, rfl, rfl, trivial⟩
            rw [hdat17, List.length_map, show out.length = (List.map Sg.key out).length by simp, List.take_length, hout, List.append_assoc, dueL_succ]
            rfl
  · rintro m5 news5 h5 tk5 ⟨v5, es5, D5, hdat5, hm5⟩ F5 N5
    replace F5 := Fr.pins F5 hm5
    walk_at "go"
    obtain ⟨n5, hl5⟩ := D5.lst
    exact h _ _ dl es5 n5 F5.keep (News.get N5 hl5) (fun e he => News.get N5 (D5.els e he)) hdat5
end

-- part LawP
section
open PySem PySem.W PySem.Calls PyProof.Rows Mine.hd PySem.SeqAt
set_option Elab.async false
set_option maxRecDepth 100000

abbrev Key := Int × List Nat
noncomputable def klt (a b : Key) : Prop := a.1 < b.1 ∨ (a.1 = b.1 ∧ a.2 < b.2)
theorem lt_iff {x y : Elt} : x.lt y = true ↔ klt x.dat y.dat := by
  unfold Elt.lt klt Elt.dat
  exact decide_eq_true_iff
theorem lt_false {x y : Elt} : x.lt y = false ↔ ¬ klt x.dat y.dat := by
  rw [← lt_iff]; simp
theorem klt_total {a b : Key} (h1 : ¬ klt a b) (h2 : ¬ klt b a) : a = b := by
  unfold klt at h1 h2
  have e : a.1 = b.1 := by omega
  refine Prod.ext e (List.le_antisymm (List.not_lt.mp fun q => h2 (.inr ⟨e.symm, q⟩)) (List.not_lt.mp fun q => h1 (.inr ⟨e, q⟩)))
theorem klt_trans {a b c : Key} (h1 : klt a b) (h2 : klt b c) : klt a c := by
  unfold klt at *
  rcases h1 with h1 | ⟨e1, h1⟩
  · rcases h2 with h2 | ⟨e2, h2⟩
    · exact .inl (by omega)
    · exact .inl (by omega)
  · rcases h2 with h2 | ⟨e2, h2⟩
    · exact .inl (by omega)
    · exact .inr ⟨e1.trans e2, List.lt_trans h1 h2⟩
theorem klt_irrefl {a : Key} : ¬ klt a a := by
  unfold klt
  rintro (h | ⟨_, h⟩)
  · omega
  · exact List.lt_irrefl _ h
theorem not_klt_trans {a b c : Key} (h1 : ¬ klt b a) (h2 : ¬ klt c b) : ¬ klt c a := fun h => by
  by_cases q : klt a b
  · exact h2 (klt_trans h q)
  · exact h2 (klt_total q h1 ▸ h)

noncomputable def stripF (x : List Nat) : List Nat := if x.head? = some 34 then x.tail else x
noncomputable def stripB (x : List Nat) : List Nat := if x.getLast? = some 34 then x.dropLast else x
noncomputable def stripL (x : List Nat) : List Nat := stripB (stripF x)
theorem strip_len {x : List Nat} : (stripL x).length ≤ x.length := by
  unfold stripL stripB stripF
  split <;> split <;> simp <;> omega

noncomputable def nextK (m : Key) (r : List Key) : List Key := if stripL m.2 = m.2 then r else (m.1, stripL m.2) :: r
noncomputable def Runs : List Key → List Key → List Key → Prop
  | l, [], l' => l.Perm l'
  | l, m :: out, l' => ∃ r, l.Perm (m :: r) ∧ (∀ x ∈ r, ¬ klt x m) ∧ Runs (nextK m r) out l'

theorem Runs.perm {l l2 l' : List Key} : ∀ {out : List Key}, l.Perm l2 → Runs l out l' → Runs l2 out l'
  | [], h, q => h.symm.trans q
  | _ :: _, h, ⟨r, q1, q2, q3⟩ => ⟨r, h.symm.trans q1, q2, q3⟩
theorem Runs.nil {out : List Key} (h : Runs [] out []) : out = [] := by
  cases out with
  | nil => rfl
  | cons m o => obtain ⟨r, q, _⟩ := h; exact absurd q.length_eq (by simp)
theorem Runs.step {z : Elt} {zs : List Elt} {out : List Key} (h : Runs ((z :: zs).map Elt.dat) out []) (hm : ∀ e ∈ zs, e.lt z = false) : ∃ out', out = z.dat :: out' ∧ Runs (nextK z.dat (zs.map Elt.dat)) out' [] := by
  cases out with
  | nil => exact absurd h.length_eq (by simp)
  | cons m o =>
    obtain ⟨r, q1, q2, q3⟩ := h
    have hmz : ∀ y ∈ zs.map Elt.dat, ¬ klt y z.dat := fun y hy => by
      obtain ⟨e, he, rfl⟩ := List.mem_map.mp hy
      exact lt_false.mp (hm e he)
    have e : m = z.dat := by
      refine klt_total ?_ ?_
      · have : m ∈ (z :: zs).map Elt.dat := q1.mem_iff.mpr (.head _)
        rcases List.mem_cons.mp this with h | h
        · rw [h]; exact klt_irrefl
        · exact hmz m h
      · have : z.dat ∈ m :: r := q1.mem_iff.mp (.head _)
        rcases List.mem_cons.mp this with h | h
        · rw [h]; exact klt_irrefl
        · exact q2 _ h
    subst e
    refine ⟨o, rfl, Runs.perm ?_ q3⟩
    have q4 : r.Perm (zs.map Elt.dat) := (List.Perm.cons_inv q1).symm
    unfold nextK
    split
    · exact q4
    · exact q4.cons _

section
variable {w : World} {A : Around} {E : Value → Shared → Prop} {s : Shared}
theorem eqAt_elt {x y : Elt} (hx : s.heap.get? x.a = some x.obj) (hy : s.heap.get? y.a = some y.obj) (hd : x.dat = y.dat) (hu : A.units + 4 < cLine) : EqAt A s (.ref x.a) (.ref y.a) true := by
  by_cases q : x.a = y.a
  · rw [q]; exact EqAt.same _
  · refine EqAt.of_refs q ?_
    have e1 : (x.k == y.k) = true := by rw [show x.k = y.k from congrArg Prod.fst hd]; simp
    have e2 : (x.t.cps.toList == y.t.cps.toList) = true := by rw [show x.t.cps.toList = y.t.cps.toList from congrArg Prod.snd hd]; simp
    have h1 : EqAt A.in1 s (.int x.k x.ik) (.int y.k y.ik) true := by
      have := (PySem.MeetsSeq.EqGives.int x.k y.k x.ik y.ik).at A.in1 s
      rw [e1] at this; exact this
    have h2 : EqAt A.in1 s (.str x.t x.it) (.str y.t y.it) true := by
      have := PySem.MeetsSeq.EqGives.at (PySem.SeqRoads2.EqGives.str x.t y.t x.it y.it) A.in1 s
      rw [e2] at this; exact this
    have := RcAt.tuples (A := A) (s := s) (l := x.a) (b := y.a) (items := #[.int x.k x.ik, .str x.t x.it]) (items2 := #[.int y.k y.ik, .str y.t y.it]) (e := fun _ => true) ⟨_, hx, rfl, 0, rfl⟩ ⟨_, hy, rfl, 0, rfl⟩ (by omega) (fun j j1 j2 => by
      match j, j1 with
      | 0, _ => exact h1
      | 1, _ => exact h2)
    exact this

theorem eq_elts {a b : Addr} {es fs : List Elt} {n n' : Nat} {Q : Value → Shared → Prop} (ha : s.heap.get? a = some (listOf (List.map Elt.val es).toArray n)) (hb : s.heap.get? b = some (listOf (List.map Elt.val fs).toArray n'))
    (hes : ∀ e ∈ es, s.heap.get? e.a = some e.obj) (hfs : ∀ e ∈ fs, s.heap.get? e.a = some e.obj) (hd : es.map Elt.dat = fs.map Elt.dat) (hu : A.units + 8 < cLine) (h : Q (.bool true) s) :
    wpAny (model P w) A (compareOp .Eq (.ref a) (.ref b)) Q E s := by
  have hl : es.length = fs.length := by have := congrArg List.length hd; simpa using this
  refine eq_listAt (items := (List.map Elt.val es).toArray) (items2 := (List.map Elt.val fs).toArray) (e := fun _ => true) ⟨_, ha, rfl, n, rfl⟩ ⟨_, hb, rfl, n', rfl⟩ (by simp [hl]) (by omega) (fun j j1 j2 => ?_) ?_
  · have k1 : j < es.length := by simpa using j1
    have k2 : j < fs.length := by simpa using j2
    have e1 : (List.map Elt.val es).toArray[j] = .ref es[j].a := by simp [Elt.val]
    have e2 : (List.map Elt.val fs).toArray[j] = .ref fs[j].a := by simp [Elt.val]
    rw [e1, e2]
    refine eqAt_elt (hes _ (List.getElem_mem k1)) (hfs _ (List.getElem_mem k2)) ?_ (by show A.units + 1 + 4 < _; omega)
    have := congrArg (fun l => l[j]?) hd
    simp only [List.getElem?_map, List.getElem?_eq_getElem k1, List.getElem?_eq_getElem k2, Option.map_some, Option.some.injEq] at this
    exact this
  · have : (List.range (List.map Elt.val es).toArray.size).all (fun _ => true) = true := by simp
    rw [this]; exact h
end
noncomputable def keyOf (r : Int × Int × Int) : Int × List Nat := (r.1 / 4096 % 16 * 4096, marks r.2.1.toNat ++ (sgn 3 r.1).cps.toList ++ marks r.2.2.toNat)
noncomputable def HeapOk (es : List Elt) : Prop := ∀ i x p, 0 < i → es[i]? = some x → es[(i - 1) / 2]? = some p → x.lt p = false
end

-- part PlH
section
open PySem
set_option Elab.async false

noncomputable def Pr (p i : Nat) : Prop := i = 2 * p + 1 ∨ i = 2 * p + 2
theorem Pr.par {p i : Nat} (h : Pr p i) : (i - 1) / 2 = p := by unfold Pr at h; omega
theorem Pr.lt {p i : Nat} (h : Pr p i) : p < i := by unfold Pr at h; omega
theorem Pr.of_pos {i : Nat} (h : 0 < i) : Pr ((i - 1) / 2) i := by unfold Pr; omega
theorem half_lt {i : Nat} (h : 0 < i) : (i - 1) / 2 < i := by omega
noncomputable def Ge (a b : Option Elt) : Prop := ∀ x y, a = some x → b = some y → y.lt x = false
noncomputable def HFr (s : Nat) (xs : List Elt) : Prop := ∀ p i, s ≤ p → Pr p i → Ge xs[p]? xs[i]?
inductive Desc (s : Nat) : Nat → Prop
  | self : Desc s s
  | kid {p i : Nat} : Desc s p → Pr p i → Desc s i

theorem Desc.le {s p : Nat} (h : Desc s p) : s ≤ p := by
  induction h with
  | self => exact Nat.le_refl _
  | kid _ q ih => unfold Pr at q; omega
theorem Desc.up {s p : Nat} (h : Desc s p) (hn : p ≠ s) : Desc s ((p - 1) / 2) := by
  cases h with
  | self => exact absurd rfl hn
  | @kid q _ h' pr => 
    have : (p - 1) / 2 = q := by unfold Pr at pr; omega
    rw [this]; exact h'

theorem Elt.lt_asymm {x y : Elt} (h : x.lt y = true) : y.lt x = false := lt_false.mpr fun q => klt_irrefl (klt_trans (lt_iff.mp h) q)
theorem Elt.le_trans {x y z : Elt} (h1 : y.lt x = false) (h2 : z.lt y = false) : z.lt x = false := lt_false.mpr (not_klt_trans (lt_false.mp h1) (lt_false.mp h2))
theorem Elt.le_refl {x : Elt} : x.lt x = false := lt_false.mpr klt_irrefl
theorem Ge.refl {x : Elt} : Ge (some x) (some x) := fun a b h1 h2 => by cases h1; cases h2; exact Elt.le_refl
theorem Ge.trans {a c : Option Elt} {y : Elt} (h1 : Ge a (some y)) (h2 : Ge (some y) c) : Ge a c := fun x z hx hz => Elt.le_trans (h1 x y hx rfl) (h2 y z rfl hz)
theorem Ge.none {a : Option Elt} : Ge a none := fun _ _ _ h => nomatch h

theorem up_inv (s : Nat) (xs : List Elt) (pos : Nat) (hd : Desc s pos) (A : ∀ p i, s ≤ p → p ≠ pos → Pr p i → Ge xs[p]? xs[i]?) (B : pos ≠ s → ∀ i, Pr pos i → Ge xs[(pos - 1) / 2]? xs[i]?) (hp : pos < xs.length) :
    Desc s (upLoop xs pos).2 ∧ (∀ p i, s ≤ p → p ≠ (upLoop xs pos).2 → Pr p i → Ge (upLoop xs pos).1[p]? (upLoop xs pos).1[i]?) ∧ (∀ i, Pr (upLoop xs pos).2 i → (upLoop xs pos).1[i]? = none) ∧ (upLoop xs pos).2 < (upLoop xs pos).1.length := by
  -- one step of the hole
  have step : ∀ (xs : List Elt) (pos k : Nat) (c : Elt), Desc s pos → (∀ p i, s ≤ p → p ≠ pos → Pr p i → Ge xs[p]? xs[i]?) → (pos ≠ s → ∀ i, Pr pos i → Ge xs[(pos - 1) / 2]? xs[i]?) → pos < xs.length → Pr pos k → xs[k]? = some c →
      (∀ i, Pr pos i → Ge (some c) xs[i]?) →
      Desc s k ∧ (∀ p i, s ≤ p → p ≠ k → Pr p i → Ge (xs.set pos c)[p]? (xs.set pos c)[i]?) ∧ (k ≠ s → ∀ i, Pr k i → Ge (xs.set pos c)[(k - 1) / 2]? (xs.set pos c)[i]?) := by
    intro xs pos k c hd A B hp hk hc hmin
    have hle := hd.le
    refine ⟨.kid hd hk, fun p i hs hpk pr => ?_, fun _ i pr => ?_⟩
    · by_cases h1 : p = pos
      · subst h1
        have hi : i ≠ p := Nat.ne_of_gt pr.lt
        rw [List.getElem?_set_self hp, List.getElem?_set_ne (Ne.symm hi)]
        exact hmin i pr
      · rw [List.getElem?_set_ne (Ne.symm h1)]
        by_cases h2 : i = pos
        · subst h2
          rw [List.getElem?_set_self hp]
          have e : (i - 1) / 2 = p := pr.par
          have := B (Nat.ne_of_gt (Nat.lt_of_le_of_lt hs pr.lt)) k hk
          rw [e, hc] at this
          exact this
        · rw [List.getElem?_set_ne (Ne.symm h2)]
          exact A p i hs h1 pr
    · have e : (k - 1) / 2 = pos := hk.par
      have hi : i ≠ pos := Nat.ne_of_gt (Nat.lt_trans hk.lt pr.lt)
      rw [e, List.getElem?_set_self hp, List.getElem?_set_ne (Ne.symm hi)]
      have := A k i (Nat.le_of_lt (Nat.lt_of_le_of_lt hle hk.lt)) (Nat.ne_of_gt hk.lt) pr
      rw [hc] at this
      exact this
  fun_induction upLoop xs pos with
  | case1 xs pos h =>
    refine ⟨hd, A, fun i pr => ?_, hp⟩
    dsimp only at pr ⊢
    rw [List.getElem?_eq_none_iff] at h ⊢
    exact (pr.elim (fun e => e ▸ h) (fun e => e ▸ Nat.le_trans h (Nat.le_succ _)))
  | case2 xs pos c h1 h2 ih =>
    have hk := (List.getElem?_eq_some_iff.mp h1).1
    obtain ⟨s1, s2, s3⟩ := step xs pos (2 * pos + 1) c hd A B hp (.inl rfl) h1 (fun i pr => by
      rcases pr with rfl | rfl
      · rw [h1]; exact .refl
      · rw [show 2 * pos + 2 = 2 * pos + 1 + 1 from rfl, h2]; exact .none)
    exact ih s1 s2 s3 (by rw [List.length_set]; exact hk)
  | case3 xs pos c h1 r h2 hlt ih =>
    have hk := (List.getElem?_eq_some_iff.mp h1).1
    obtain ⟨s1, s2, s3⟩ := step xs pos (2 * pos + 1) c hd A B hp (.inl rfl) h1 (fun i pr => by
      rcases pr with rfl | rfl
      · rw [h1]; exact .refl
      · rw [show 2 * pos + 2 = 2 * pos + 1 + 1 from rfl, h2]
        intro a b e1 e2; cases e1; cases e2; exact Elt.lt_asymm hlt)
    exact ih s1 s2 s3 (by rw [List.length_set]; exact hk)
  | case4 xs pos c h1 r h2 hlt ih =>
    have hk := (List.getElem?_eq_some_iff.mp h2).1
    obtain ⟨s1, s2, s3⟩ := step xs pos (2 * pos + 1 + 1) r hd A B hp (.inr rfl) h2 (fun i pr => by
      rcases pr with rfl | rfl
      · rw [h1]
        intro a b e1 e2; cases e1; cases e2; simpa using hlt
      · rw [show 2 * pos + 2 = 2 * pos + 1 + 1 from rfl, h2]; exact .refl)
    exact ih s1 s2 s3 (by rw [List.length_set]; exact hk)

theorem down_inv (s : Nat) (x : Elt) (xs : List Elt) (pos : Nat) (hd : Desc s pos) (C : ∀ p i, s ≤ p → i ≠ pos → Pr p i → Ge (xs.set pos x)[p]? (xs.set pos x)[i]?) (D : pos ≠ s → ∀ i, Pr pos i → Ge xs[(pos - 1) / 2]? xs[i]?) (hp : pos < xs.length) :
    HFr s ((downLoop xs s pos x).1.set (downLoop xs s pos x).2 x) := by
  fun_induction downLoop xs s pos x with
  | case1 xs pos h q hq hlt ih =>
    have h0 : 0 < pos := Nat.lt_of_le_of_lt (Nat.zero_le s) h
    have hu := hd.up (Nat.ne_of_gt h)
    have hul := hu.le
    have hqp : (pos - 1) / 2 ≠ pos := Nat.ne_of_lt (half_lt h0)
    have prq : Pr ((pos - 1) / 2) pos := .of_pos h0
    have hql : (pos - 1) / 2 < xs.length := Nat.lt_trans (half_lt h0) hp
    -- what C says of q and the pos's sibling
    have Cq : ∀ i, Pr ((pos - 1) / 2) i → i ≠ pos → Ge (some q) xs[i]? := fun i pr hi => by
      have := C _ i hul hi pr
      rw [List.getElem?_set_ne (Ne.symm hqp), List.getElem?_set_ne (Ne.symm hi), hq] at this
      exact this
    refine ih hu ?_ ?_ (by rw [List.length_set]; exact hql)
    · intro p i hs hi pr
      by_cases h1 : p = (pos - 1) / 2
      · subst h1
        rw [List.getElem?_set_self (by rw [List.length_set]; exact hql), List.getElem?_set_ne (Ne.symm hi)]
        by_cases h2 : i = pos
        · subst h2
          rw [List.getElem?_set_self hp]
          intro a b e1 e2; cases e1; cases e2; exact Elt.lt_asymm hlt
        · rw [List.getElem?_set_ne (Ne.symm h2)]
          refine Ge.trans (y := q) ?_ (Cq i pr h2)
          intro a b e1 e2; cases e1; cases e2; exact Elt.lt_asymm hlt
      · rw [List.getElem?_set_ne (Ne.symm h1), List.getElem?_set_ne (Ne.symm hi)]
        have hip : i ≠ pos := fun e => h1 (e ▸ pr.par.symm)
        by_cases h2 : p = pos
        · subst h2
          rw [List.getElem?_set_self hp, List.getElem?_set_ne (Ne.symm hip)]
          have := D (Nat.ne_of_gt h) i pr
          rw [hq] at this
          exact this
        · rw [List.getElem?_set_ne (Ne.symm h2), List.getElem?_set_ne (Ne.symm hip)]
          have := C p i hs hip pr
          rw [List.getElem?_set_ne (Ne.symm h2), List.getElem?_set_ne (Ne.symm hip)] at this
          exact this
    · intro hns i pr
      have huu := (hu.up hns).le
      have hq0 : 0 < (pos - 1) / 2 := Nat.lt_of_le_of_lt (Nat.zero_le s) (Nat.lt_of_le_of_ne hul (Ne.symm hns))
      have hgp : ((pos - 1) / 2 - 1) / 2 ≠ pos := Nat.ne_of_lt (Nat.lt_trans (half_lt hq0) (half_lt h0))
      have up : Ge xs[((pos - 1) / 2 - 1) / 2]? (some q) := by
        have := C (((pos - 1) / 2 - 1) / 2) ((pos - 1) / 2) huu hqp (.of_pos hq0)
        rw [List.getElem?_set_ne (Ne.symm hgp), List.getElem?_set_ne (Ne.symm hqp), hq] at this
        exact this
      rw [List.getElem?_set_ne (Ne.symm hgp)]
      by_cases h2 : i = pos
      · subst h2
        rw [List.getElem?_set_self hp]
        exact up
      · rw [List.getElem?_set_ne (Ne.symm h2)]
        exact up.trans (Cq i pr h2)
  | case2 xs pos h q hq hlt =>
    intro p i hs pr
    by_cases h2 : i = pos
    · subst h2
      have e : (i - 1) / 2 = p := pr.par
      have hpi : p ≠ i := Nat.ne_of_lt pr.lt
      rw [List.getElem?_set_self hp, List.getElem?_set_ne (Ne.symm hpi), ← e, hq]
      intro a b e1 e2; cases e1; cases e2; simpa using hlt
    · exact C p i hs h2 pr
  | case3 xs pos h hq =>
    rw [List.getElem?_eq_none_iff] at hq
    exact absurd (Nat.lt_of_le_of_lt hq (Nat.lt_of_le_of_lt (Nat.le_trans (Nat.div_le_self _ 2) (Nat.sub_le _ 1)) hp)) (Nat.lt_irrefl _)
  | case4 xs pos h =>
    have e : pos = s := by have := hd.le; omega
    intro p i hs pr
    exact C p i hs (e ▸ Nat.ne_of_gt (Nat.lt_of_le_of_lt hs pr.lt)) pr

theorem suL_heap {s : Nat} {xs : List Elt} {x : Elt} (hs : s < xs.length) (h : HFr (s + 1) xs) : HFr s (suL xs s x) := by
  unfold suL sdL
  obtain ⟨d, A, lf, hl⟩ := up_inv s xs s .self (fun p i h1 h2 pr => h p i (by omega) pr) (fun q => absurd rfl q) hs
  refine down_inv s x _ _ d ?_ ?_ (by rw [List.length_set]; exact hl)
  · intro p i hsp hi pr
    rw [List.set_set]
    by_cases h1 : p = (upLoop xs s).2
    · rw [List.getElem?_set_ne (Ne.symm hi), lf i (h1 ▸ pr)]; exact .none
    · rw [List.getElem?_set_ne (Ne.symm hi), List.getElem?_set_ne (Ne.symm h1)]
      exact A p i hsp h1 pr
  · intro _ i pr
    have hi : i ≠ (upLoop xs s).2 := Nat.ne_of_gt pr.lt
    rw [List.getElem?_set_ne (Ne.symm hi), lf i pr]; exact .none

theorem HFr.ok {xs : List Elt} (h : HFr 0 xs) : HeapOk xs := fun i x p hi hx hp => h ((i - 1) / 2) i (Nat.zero_le _) (by unfold Pr; omega) p x hp hx
theorem HeapOk.hfr {xs : List Elt} (h : HeapOk xs) : HFr 0 xs := fun p i _ pr x y hx hy => h i y x (by unfold Pr at pr; omega) hy (by rw [show (i - 1) / 2 = p by unfold Pr at pr; omega]; exact hx)

theorem heap_min {z : Elt} {zs : List Elt} (h : HeapOk (z :: zs)) : ∀ e ∈ zs, e.lt z = false := by
  have all : ∀ (i : Nat) (x : Elt), (z :: zs)[i]? = some x → x.lt z = false := by
    intro i
    induction i using Nat.strongRecOn with
    | ind i ih =>
      intro x hx
      by_cases h0 : i = 0
      · subst h0
        have : z = x := Option.some.inj hx
        rw [this]; exact Elt.le_refl
      · have hlt := (List.getElem?_eq_some_iff.mp hx).1
        have hpl : (i - 1) / 2 < (z :: zs).length := by omega
        have hp := List.getElem?_eq_getElem hpl
        exact Elt.le_trans (ih _ (by omega) _ hp) (h i x _ (by omega) hx hp)
  intro e he
  obtain ⟨j, hj, rfl⟩ := List.getElem_of_mem he
  exact all (j + 1) _ (by rw [List.getElem?_cons_succ, List.getElem?_eq_getElem hj])

theorem hf_perm {xs : List Elt} {n : Nat} : (hfLoop n xs).Perm xs := by
  induction n generalizing xs with
  | zero => exact .refl _
  | succ p ih =>
    unfold hfLoop
    refine ih.trans ?_
    cases hx : xs[p]? with
    | none => exact .refl _
    | some x => exact suL_perm' hx
theorem hf_heap : ∀ (n : Nat) (xs : List Elt), HFr n xs → HFr 0 (hfLoop n xs)
  | 0, xs, h => h
  | p + 1, xs, h => by
    unfold hfLoop
    refine hf_heap p _ ?_
    cases hx : xs[p]? with
    | none =>
      intro q i hq pr x y hx' hy
      have hx2 : xs[q]? = some x := hx'
      have := (List.getElem?_eq_some_iff.mp hx2).1
      rw [List.getElem?_eq_none_iff] at hx
      omega
    | some x => exact suL_heap (List.getElem?_eq_some_iff.mp hx).1 h
theorem hf_ok {xs : List Elt} : HeapOk (hfLoop (xs.length / 2) xs) := (hf_heap _ _ (fun p i hp pr x y _ hy => by
  have := (List.getElem?_eq_some_iff.mp hy).1
  unfold Pr at pr
  omega)).ok

theorem su_perm {x : Elt} {zs : List Elt} : (suL (x :: zs) 0 x).Perm (x :: zs) := suL_perm' rfl
theorem hfr_head {x z : Elt} {zs : List Elt} (h : HeapOk (z :: zs)) : HFr 1 (x :: zs) := fun p i hp pr a b ha hb => by
  have hi : 0 < i := by unfold Pr at pr; omega
  obtain ⟨p', rfl⟩ : ∃ p', p = p' + 1 := ⟨p - 1, by omega⟩
  obtain ⟨i', rfl⟩ : ∃ i', i = i' + 1 := ⟨i - 1, by omega⟩
  rw [List.getElem?_cons_succ] at ha hb
  exact h.hfr (p' + 1) (i' + 1) (Nat.zero_le _) pr a b (by rw [List.getElem?_cons_succ]; exact ha) (by rw [List.getElem?_cons_succ]; exact hb)
theorem su_ok {x z : Elt} {zs : List Elt} (h : HeapOk (z :: zs)) : HeapOk (suL (x :: zs) 0 x) := (suL_heap (by simp) (hfr_head h)).ok
theorem pop_ok {x : Elt} {xs : List Elt} (h : HeapOk (xs ++ [x])) : HeapOk (popRest xs x) := by
  cases xs with
  | nil => intro i y p _ hy; exact absurd hy (by simp [popRest])
  | cons z zs =>
    refine su_ok (z := z) (zs := zs) fun i y p hi hy hp => ?_
    have h1 := (List.getElem?_eq_some_iff.mp hy).1
    have h2 := (List.getElem?_eq_some_iff.mp hp).1
    exact h i y p hi (by rw [List.getElem?_append_left h1]; exact hy) (by rw [List.getElem?_append_left h2]; exact hp)
theorem pop_perm {x : Elt} {xs : List Elt} : (popTop xs x :: popRest xs x).Perm (xs ++ [x]) := by
  cases xs with
  | nil => exact .refl _
  | cons z zs =>
    show (z :: suL (x :: zs) 0 x).Perm (z :: (zs ++ [x]))
    exact (su_perm.trans (List.perm_append_singleton x zs).symm).cons z
end

-- part PlD
section
open PySem
set_option Elab.async false

theorem Runs.append {l l1 l2 : List Key} : ∀ {o1 o2 : List Key}, Runs l o1 l1 → Runs l1 o2 l2 → Runs l (o1 ++ o2) l2
  | [], _, h1, h2 => Runs.perm (List.Perm.symm h1) h2
  | _ :: _, _, ⟨r, q1, q2, q3⟩, h2 => ⟨r, q1, q2, Runs.append q3 h2⟩
theorem Runs.to {l l1 l2 : List Key} : ∀ {o : List Key}, Runs l o l1 → l1.Perm l2 → Runs l o l2
  | [], h1, h2 => List.Perm.trans h1 h2
  | _ :: _, ⟨r, q1, q2, q3⟩, h2 => ⟨r, q1, q2, Runs.to q3 h2⟩
theorem nextK_append {m : Key} {r B : List Key} : nextK m (r ++ B) = nextK m r ++ B := by
  unfold nextK; split <;> rfl
theorem Runs.frame {l l' B : List Key} : ∀ {o : List Key}, Runs l o l' → (∀ m ∈ o, ∀ x ∈ B, ¬ klt x m) → Runs (l ++ B) o (l' ++ B)
  | [], h1, _ => List.Perm.append_right B h1
  | m :: _, ⟨r, q1, q2, q3⟩, h2 => ⟨r ++ B, q1.append_right B, fun x hx => by
      rcases List.mem_append.mp hx with h | h
      · exact q2 x h
      · exact h2 m (.head _) x h, by
      rw [nextK_append]
      exact Runs.frame q3 fun m' hm' => h2 m' (.tail _ hm')⟩

/-- a text: marks, signs, marks -/
noncomputable def tx (a : Nat) (g : List Nat) (b : Nat) : List Nat := marks a ++ g ++ marks b
noncomputable def Sig (g : List Nat) : Prop := g.length = 10 ∧ ∀ c ∈ g, 34 < c

theorem marks_succ (n : Nat) : marks (n + 1) = 34 :: marks n := rfl
theorem marks_snoc (n : Nat) : marks (n + 1) = marks n ++ [34] := by unfold marks; rw [List.replicate_succ']
theorem sig_cons {g : List Nat} (h : Sig g) : ∃ c r, g = c :: r ∧ 34 < c := by
  match g, h with
  | c :: r, h => exact ⟨c, r, rfl, h.2 c (.head _)⟩
  | [], h => exact absurd h.1 (by simp)
theorem sig_last {g : List Nat} (h : Sig g) : ∃ c, g.getLast? = some c ∧ 34 < c := by
  have hne : g ≠ [] := fun e => by have := h.1; rw [e] at this; simp at this
  exact ⟨g.getLast hne, List.getLast?_eq_some_getLast hne, h.2 _ (List.getLast_mem hne)⟩

theorem stripF_tx {a b : Nat} {g : List Nat} (h : Sig g) : stripF (tx a g b) = tx (a - 1) g b := by
  unfold stripF tx
  cases a with
  | zero =>
    obtain ⟨c, r, rfl, hc⟩ := sig_cons h
    rw [if_neg]
    simp [marks]
    omega
  | succ a => simp [marks_succ]
theorem stripB_tx {a b : Nat} {g : List Nat} (h : Sig g) : stripB (tx a g b) = tx a g (b - 1) := by
  unfold stripB tx
  cases b with
  | zero =>
    obtain ⟨c, e, hc⟩ := sig_last h
    rw [if_neg]
    simp [marks, e]
    omega
  | succ b =>
    rw [marks_snoc, ← List.append_assoc, if_pos (by simp)]
    simp
theorem strip_tx {a b : Nat} {g : List Nat} (h : Sig g) : stripL (tx a g b) = tx (a - 1) g (b - 1) := by
  unfold stripL; rw [stripF_tx h, stripB_tx h]
theorem tx_len {a b : Nat} {g : List Nat} (h : Sig g) : (tx a g b).length = a + 10 + b := by
  unfold tx marks; simp [h.1]; omega

/-- more marks ahead stand first -/
theorem tx_ahead {a a' b b' : Nat} {g g' : List Nat} (h' : Sig g') (ha : a' < a) : ¬ tx a' g' b' < tx a g b := by
  obtain ⟨c, r, rfl, hc⟩ := sig_cons h'
  induction a' generalizing a with
  | zero =>
    obtain ⟨a, rfl⟩ : ∃ k, a = k + 1 := ⟨a - 1, by omega⟩
    unfold tx
    rw [marks_succ]
    simp only [marks, List.replicate_zero, List.nil_append, List.cons_append, List.cons_lt_cons_iff]
    omega
  | succ a' ih =>
    obtain ⟨a, rfl⟩ : ∃ k, a = k + 1 := ⟨a - 1, by omega⟩
    have := ih (a := a) (by omega)
    unfold tx at this ⊢
    rw [marks_succ, marks_succ]
    simp only [List.cons_append, List.cons_lt_cons_iff] at this ⊢
    simp only [Nat.lt_irrefl, true_and, false_or]
    exact this

theorem marks_lt : ∀ {a b : Nat}, marks a < marks b → a < b := by
  intro a
  induction a with
  | zero => intro b h; cases b with
    | zero => exact absurd h (List.lt_irrefl _)
    | succ b => omega
  | succ a ih => intro b h; cases b with
    | zero => exact absurd h (by simp [marks])
    | succ b =>
      rw [marks_succ, marks_succ, List.cons_lt_cons_iff] at h
      have := ih (b := b) (by simpa using h)
      omega
theorem app_lt {x : List Nat} : ∀ {g g' y : List Nat}, g.length = g'.length → (g ++ x < g' ++ y) → g < g' ∨ (g = g' ∧ x < y)
  | [], [], y, _, h => .inr ⟨rfl, h⟩
  | c :: g, c' :: g', y, hl, h => by
    rw [List.cons_append, List.cons_append, List.cons_lt_cons_iff] at h
    rcases h with h | ⟨e, h⟩
    · exact .inl (List.cons_lt_cons_iff.mpr (.inl h))
    · rcases app_lt (by simpa using hl) h with q | ⟨q1, q2⟩
      · exact .inl (List.cons_lt_cons_iff.mpr (.inr ⟨e, q⟩))
      · exact .inr ⟨by rw [e, q1], q2⟩
  | [], c :: g', y, hl, _ => absurd hl (by simp)
  | c :: g, [], y, hl, _ => absurd hl (by simp)
theorem marks_app_lt {x y : List Nat} : ∀ {a : Nat}, marks a ++ x < marks a ++ y → x < y
  | 0, h => h
  | a + 1, h => by
    rw [marks_succ, List.cons_append, List.cons_append, List.cons_lt_cons_iff] at h
    exact marks_app_lt (a := a) (by simpa using h)
/-- at the same level: by signs, then by marks behind -/
theorem tx_same {a b b' : Nat} {g g' : List Nat} (h : Sig g) (h' : Sig g') (q : pairLt (g, (b : Int)) (g', (b' : Int)) = false) : ¬ tx a g b < tx a g' b' := fun lt => by
  unfold tx at lt
  rw [List.append_assoc, List.append_assoc] at lt
  rw [pairLt_false] at q
  rcases app_lt (by rw [h.1, h'.1]) (marks_app_lt lt) with r | ⟨r1, r2⟩
  · exact q.1 r
  · have := marks_lt r2
    exact q.2 r1 (by simpa using this)

/-- what stands below level lv: keys of kind K with fewer marks ahead -/
noncomputable def Low (K : Int) (lv : Nat) (x : Key) : Prop := x.1 = K ∧ ∃ a g b, x.2 = tx a g b ∧ Sig g ∧ a < lv
noncomputable def T (K : Int) (lv : Nat) (p : List Nat × Int) : Key := (K, tx lv p.1 p.2.toNat)
noncomputable def T' (K : Int) (lv : Nat) (p : List Nat × Int) : Key := (K, tx (lv - 1) p.1 (p.2.toNat - 1))
noncomputable def POk (p : List Nat × Int) : Prop := Sig p.1 ∧ 0 ≤ p.2

theorem nextK_T {K : Int} {lv : Nat} {p : List Nat × Int} {r : List Key} (h : POk p) (hlv : 0 < lv) : nextK (T K lv p) r = T' K lv p :: r := by
  unfold nextK T T'
  dsimp only
  rw [strip_tx h.1, if_neg]
  intro e
  have := congrArg List.length e
  rw [tx_len h.1, tx_len h.1] at this
  omega
theorem T_le {K : Int} {lv : Nat} {p q : List Nat × Int} (hp : POk p) (hq : POk q) (h : pairLt q p = false) : ¬ klt (T K lv q) (T K lv p) := fun lt => by
  unfold klt T at lt
  rcases lt with lt | ⟨_, lt⟩
  · exact absurd lt (Int.lt_irrefl _)
  · refine tx_same hq.1 hp.1 ?_ lt
    rw [show ((q.2.toNat : Nat) : Int) = q.2 from Int.toNat_of_nonneg hq.2, show ((p.2.toNat : Nat) : Int) = p.2 from Int.toNat_of_nonneg hp.2]
    exact h
theorem low_le {K : Int} {lv : Nat} {p : List Nat × Int} {x : Key} (h : Low K lv x) : ¬ klt x (T K lv p) := fun lt => by
  obtain ⟨h1, a, g, b, h2, hg, ha⟩ := h
  unfold klt T at lt
  dsimp only at lt
  rw [h1, h2] at lt
  rcases lt with lt | ⟨_, lt⟩
  · exact absurd lt (Int.lt_irrefl _)
  · exact tx_ahead hg ha lt

theorem lvl_run {K : Int} {lv : Nat} (hlv : 0 < lv) : ∀ (Ps : List (List Nat × Int)) (B : List Key), (∀ p ∈ Ps, POk p) → (Ps.Pairwise fun a b => pairLt b a = false) → (∀ x ∈ B, Low K lv x) →
    Runs (Ps.map (T K lv) ++ B) (Ps.map (T K lv)) (Ps.map (T' K lv) ++ B)
  | [], B, _, _, _ => List.Perm.refl _
  | p :: ps, B, hok, hs, hB => by
    have hs' := List.pairwise_cons.mp hs
    refine ⟨ps.map (T K lv) ++ B, .refl _, fun x hx => ?_, ?_⟩
    · rcases List.mem_append.mp hx with h | h
      · obtain ⟨q, hq, rfl⟩ := List.mem_map.mp h
        exact T_le (hok p (.head _)) (hok q (.tail _ hq)) (hs'.1 q hq)
      · exact low_le (hB x h)
    · rw [nextK_T (hok p (.head _)) hlv]
      have ih := lvl_run hlv ps (T' K lv p :: B) (fun q hq => hok q (.tail _ hq)) hs'.2 (fun x hx => by
        rcases List.mem_cons.mp hx with rfl | h
        · exact ⟨rfl, lv - 1, p.1, p.2.toNat - 1, rfl, (hok p (.head _)).1, by omega⟩
        · exact hB x h)
      exact (Runs.perm List.perm_middle ih).to List.perm_middle

theorem leftOf_eq {kd : Nat} {p : List Nat × Int} {j : Nat} : leftOf kd p j = ((kd : Int) * 4096, tx 0 p.1 (p.2.toNat - j)) := by
  unfold leftOf tx marks; simp
theorem prefix_le {g : List Nat} {b b' : Nat} (h : b' ≤ b) {K : Int} {x : Key} (hx : ¬ klt x (K, tx 0 g b)) : ¬ klt x (K, tx 0 g b') := fun lt => by
  by_cases e : b' = b
  · exact hx (e ▸ lt)
  · refine hx (klt_trans lt (.inr ⟨rfl, ?_⟩))
    show tx 0 g b' < tx 0 g b
    obtain ⟨d, rfl⟩ : ∃ d, b = b' + (d + 1) := ⟨b - b' - 1, by omega⟩
    unfold tx marks
    rw [← List.replicate_append_replicate, ← List.append_assoc]
    generalize List.replicate 0 34 ++ g ++ List.replicate b' 34 = u
    rw [List.replicate_succ]
    clear lt hx e h
    induction u with
    | nil => simp
    | cons c u ih => exact List.cons_lt_cons_iff.mpr (.inr ⟨rfl, ih⟩)
theorem down_run {K : Int} {g : List Nat} (hg : Sig g) : ∀ (b : Nat) (R : List Key), (∀ x ∈ R, ¬ klt x (K, tx 0 g b)) → Runs ((K, tx 0 g b) :: R) ((List.range (b + 1)).map fun j => (K, tx 0 g (b - j))) R
  | 0, R, h => ⟨R, .refl _, h, by
      unfold nextK
      rw [if_pos (strip_tx hg)]
      exact List.Perm.refl _⟩
  | b + 1, R, h => by
    rw [List.range_succ_eq_map, List.map_cons, List.map_map]
    refine ⟨R, .refl _, h, ?_⟩
    have ne : ¬ stripL (tx 0 g (b + 1)) = tx 0 g (b + 1) := fun e => by
      rw [strip_tx hg] at e
      have := congrArg List.length e
      rw [tx_len hg, tx_len hg] at this
      omega
    unfold nextK
    dsimp only
    rw [Nat.sub_zero, if_neg ne, strip_tx hg]
    have ih := down_run (K := K) hg b R fun x hx => prefix_le (b := b + 1) (by omega) (h x hx)
    have e : (fun j => (K, tx 0 g (b - j))) = ((fun j => (K, tx 0 g (b + 1 - j))) ∘ Nat.succ) := by
      funext j
      show (K, tx 0 g (b - j)) = (K, tx 0 g (b + 1 - (j + 1)))
      rw [show b + 1 - (j + 1) = b - j by omega]
    rw [← e]
    exact ih
theorem downs_run {kd : Nat} : ∀ (Ps : List (List Nat × Int)), (∀ p ∈ Ps, POk p) → (Ps.Pairwise fun a b => pairLt b a = false) → Runs (Ps.map (T ((kd : Int) * 4096) 0)) (Ps.flatMap (downL kd)) []
  | [], _, _ => List.Perm.refl _
  | p :: ps, hok, hs => by
    have hs' := List.pairwise_cons.mp hs
    rw [List.flatMap_cons]
    refine Runs.append (l1 := ps.map (T ((kd : Int) * 4096) 0)) ?_ (downs_run ps (fun q hq => hok q (.tail _ hq)) hs'.2)
    have := down_run (K := (kd : Int) * 4096) (hok p (.head _)).1 p.2.toNat (ps.map (T ((kd : Int) * 4096) 0)) fun x hx => by
      obtain ⟨q, hq, rfl⟩ := List.mem_map.mp hx
      exact T_le (lv := 0) (hok p (.head _)) (hok q (.tail _ hq)) (hs'.1 q hq)
    have e : downL kd p = (List.range (p.2.toNat + 1)).map fun j => ((kd : Int) * 4096, tx 0 p.1 (p.2.toNat - j)) := by
      unfold downL
      exact List.map_congr_left fun j _ => leftOf_eq
    rw [e]
    exact this

noncomputable def st (K : Int) (lv : Nat) (h : List Nat × Int × Int) : Key := (K, tx (min h.2.1.toNat lv) h.1 (h.2.2.toNat - (h.2.1.toNat - lv)))
noncomputable def HOk (h : List Nat × Int × Int) : Prop := Sig h.1 ∧ 0 ≤ h.2.1 ∧ h.2.1 ≤ 3 ∧ 0 ≤ h.2.2 ∧ h.2.2 ≤ 3

theorem toNat_max (x : Int) : (max 0 x).toNat = x.toNat := by
  rcases Int.le_total 0 x with h | h
  · rw [Int.max_eq_right h]
  · rw [Int.max_eq_left h, Int.toNat_of_nonpos h]; rfl
/-- what is left behind at a level -/
theorem behind_at {a b : Int} {lv : Nat} (ha : (lv : Int) ≤ a) (hb : 0 ≤ b) : (max 0 (b - a + lv)).toNat = b.toNat - (a.toNat - lv) := by
  obtain ⟨B, rfl⟩ := Int.eq_ofNat_of_zero_le hb
  obtain ⟨A, rfl⟩ := Int.eq_ofNat_of_zero_le (Int.le_trans (Int.natCast_nonneg lv) ha)
  obtain ⟨d, rfl⟩ := Nat.exists_eq_add_of_le (Int.ofNat_le.mp ha)
  rw [toNat_max, show (B : Int) - ((lv + d : Nat) : Int) + lv = (B : Int) - (d : Int) by omega, Int.toNat_sub, Int.toNat_natCast, Int.toNat_natCast, Nat.add_sub_cancel_left]
theorem back_one {A B lv : Nat} (hlv : 0 < lv) (h : lv ≤ A) : B - (A - (lv - 1)) = B - (A - lv) - 1 := by
  rw [Nat.sub_sub, show A - (lv - 1) = A - lv + 1 by omega]
theorem le_toNat' {a : Int} {lv : Nat} (h : (lv : Int) ≤ a) : lv ≤ a.toNat := Int.le_toNat (Int.le_trans (Int.natCast_nonneg lv) h) |>.mpr h
theorem toNat_lt' {a : Int} {lv : Nat} (hlv : 0 < lv) (h : ¬ (lv : Int) ≤ a) : a.toNat < lv := by
  omega
theorem level_run {K : Int} {lv : Nat} (hlv : 0 < lv) {here : List (List Nat × Int × Int)} (hok : ∀ h ∈ here, HOk h) :
    Runs (here.map (st K lv)) ((sortP (nowL lv here)).map (T K lv)) (here.map (st K (lv - 1))) := by
  let c : List Nat × Int × Int → Bool := fun h => decide (h.2.1 ≥ (lv : Int))
  have hp : (here.filter c ++ here.filter (fun x => !c x)).Perm here := List.filter_append_perm c here
  have hn : nowL lv here = (here.filter c).map (nowOf lv) := rfl
  have e1 : (here.filter c).map (st K lv) = (nowL lv here).map (T K lv) := by
    rw [hn, List.map_map]
    refine List.map_congr_left fun h hh => ?_
    have ⟨h1, h2⟩ := List.mem_filter.mp hh
    have h3 : h.2.1 ≥ (lv : Int) := of_decide_eq_true h2
    obtain ⟨_, q1, q2, q3, q4⟩ := hok h h1
    show (K, tx _ h.1 _) = (K, tx lv h.1 (max 0 (h.2.2 - h.2.1 + lv)).toNat)
    rw [Nat.min_eq_right (le_toNat' h3), behind_at h3 q3]
  have e2 : (here.filter c).map (st K (lv - 1)) = (nowL lv here).map (T' K lv) := by
    rw [hn, List.map_map]
    refine List.map_congr_left fun h hh => ?_
    have ⟨h1, h2⟩ := List.mem_filter.mp hh
    have h3 : h.2.1 ≥ (lv : Int) := of_decide_eq_true h2
    obtain ⟨_, q1, q2, q3, q4⟩ := hok h h1
    show (K, tx _ h.1 _) = (K, tx (lv - 1) h.1 ((max 0 (h.2.2 - h.2.1 + lv)).toNat - 1))
    rw [Nat.min_eq_right (Nat.le_trans (Nat.sub_le _ _) (le_toNat' h3)), behind_at h3 q3, back_one hlv (le_toNat' h3)]
  have e3 : (here.filter fun x => !c x).map (st K lv) = (here.filter fun x => !c x).map (st K (lv - 1)) := by
    refine List.map_congr_left fun h hh => ?_
    have ⟨h1, h2⟩ := List.mem_filter.mp hh
    have h3 : ¬ h.2.1 ≥ (lv : Int) := by simpa [c] using h2
    obtain ⟨_, q1, q2, q3, q4⟩ := hok h h1
    unfold st
    have h4 := toNat_lt' hlv h3
    rw [Nat.min_eq_left (Nat.le_sub_one_of_lt h4), Nat.min_eq_left (Nat.le_of_lt h4), Nat.sub_eq_zero_of_le (Nat.le_sub_one_of_lt h4), Nat.sub_eq_zero_of_le (Nat.le_of_lt h4)]
  have pok : ∀ p ∈ sortP (nowL lv here), POk p := fun p hp' => by
    obtain ⟨h, hh, rfl⟩ := List.mem_map.mp (sortP_perm.mem_iff.mp hp')
    obtain ⟨q0, q1, q2, q3, q4⟩ := hok h (List.mem_filter.mp hh).1
    exact ⟨q0, Int.le_max_left _ _⟩
  have low : ∀ x ∈ (here.filter fun x => !c x).map (st K lv), Low K lv x := fun x hx => by
    obtain ⟨h, hh, rfl⟩ := List.mem_map.mp hx
    have ⟨h1, h2⟩ := List.mem_filter.mp hh
    have h3 : ¬ h.2.1 ≥ (lv : Int) := by simpa [c] using h2
    obtain ⟨q0, q1, q2, q3, q4⟩ := hok h h1
    exact ⟨rfl, _, _, _, rfl, q0, Nat.lt_of_le_of_lt (Nat.min_le_left _ _) (toNat_lt' hlv h3)⟩
  have run := lvl_run (K := K) hlv _ _ pok sortP_pw low
  refine (Runs.perm ?_ run).to ?_
  · refine List.Perm.trans ?_ (hp.map (st K lv))
    rw [List.map_append, e1]
    exact (sortP_perm.map _).append_right _
  · refine List.Perm.trans ?_ (hp.map (st K (lv - 1)))
    rw [List.map_append, e2, ← e3]
    exact (sortP_perm.map _).append_right _

theorem kind_run {kd : Nat} {here : List (List Nat × Int × Int)} (hok : ∀ h ∈ here, HOk h) : Runs (here.map (st ((kd : Int) * 4096) 3)) (lvls kd here 3 ++ (sortP (lastL here)).flatMap (downL kd)) [] := by
  have e : lvls kd here 3 = lvlL kd 3 here ++ (lvlL kd 2 here ++ lvlL kd 1 here) := by simp [lvls]
  rw [e]
  have last : Runs (here.map (st ((kd : Int) * 4096) 0)) ((sortP (lastL here)).flatMap (downL kd)) [] := by
    refine Runs.perm ?_ (downs_run (kd := kd) (sortP (lastL here)) ?_ sortP_pw)
    · refine (sortP_perm.map _).trans ?_
      unfold lastL
      rw [List.map_map]
      refine List.Perm.of_eq (List.map_congr_left fun h hh => ?_)
      obtain ⟨q0, q1, q2, q3, q4⟩ := hok h hh
      show ((kd : Int) * 4096, tx 0 h.1 (max 0 (h.2.2 - h.2.1)).toNat) = ((kd : Int) * 4096, tx _ h.1 _)
      have e0 := behind_at (lv := 0) q1 q3
      rw [Int.natCast_zero, Int.add_zero] at e0
      rw [Nat.min_zero, e0]
    · intro p hp'
      obtain ⟨h, hh, rfl⟩ := List.mem_map.mp (sortP_perm.mem_iff.mp hp')
      obtain ⟨q0, q1, q2, q3, q4⟩ := hok h hh
      exact ⟨q0, Int.le_max_left _ _⟩
  exact Runs.append (Runs.append (level_run (lv := 3) (by decide) hok) (Runs.append (level_run (lv := 2) (by decide) hok) (level_run (lv := 1) (by decide) hok))) last
end

-- part PlR
section
open PySem
set_option Elab.async false

theorem rows_ok {ns : List Int} : ∀ r ∈ rowsOf ns, 0 ≤ r.1 ∧ r.1 < 2 ^ 20 ∧ 0 ≤ r.2.1 ∧ r.2.1 ≤ 3 ∧ 0 ≤ r.2.2 ∧ r.2.2 ≤ 3 := by
  intro r hr
  unfold rowsOf at hr
  rcases List.mem_append.mp hr with h | h
  · simp only [List.mem_cons, List.not_mem_nil, or_false] at h
    rcases h with rfl | rfl | rfl <;> decide
  · obtain ⟨x, _, rfl⟩ := List.mem_map.mp h
    unfold rowOf
    dsimp only
    have a1 := Int.fmod_nonneg_of_pos (x.fdiv 16) (b := 16) (by decide)
    have a2 := Int.fmod_lt_of_pos (x.fdiv 16) (b := 16) (by decide)
    have b1 := Int.fmod_nonneg_of_pos (x.fdiv 256) (b := 4096) (by decide)
    have b2 := Int.fmod_lt_of_pos (x.fdiv 256) (b := 4096) (by decide)
    have c1 := Int.fmod_nonneg_of_pos (x.fdiv 1048576) (b := 4) (by decide)
    have c2 := Int.fmod_lt_of_pos (x.fdiv 1048576) (b := 4) (by decide)
    have d1 := Int.fmod_nonneg_of_pos x (b := 4) (by decide)
    have d2 := Int.fmod_lt_of_pos x (b := 4) (by decide)
    have f1 := Int.fmod_nonneg_of_pos (x.fdiv 4) (b := 4) (by decide)
    have f2 := Int.fmod_lt_of_pos (x.fdiv 4) (b := 4) (by decide)
    refine ⟨by omega, by omega, by omega, by omega, by omega, by omega⟩

theorem small_cases {P : Int → Prop} {n : Nat} (h : ∀ j : Fin n, P (j.val : Int)) {i : Int} (h0 : 0 ≤ i) (h1 : i < n) : P i := by
  have := h ⟨i.toNat, by omega⟩
  rwa [show ((⟨i.toNat, by omega⟩ : Fin n).val : Int) = i by simp; omega] at this

theorem sig_app {x y : Str} (hx : ∀ c ∈ x.cps.toList, 34 < c) (hy : ∀ c ∈ y.cps.toList, 34 < c) : ∀ c ∈ (x ++ y).cps.toList, 34 < c := by
  intro c hc
  rw [Str.cps_append, Array.toList_append] at hc
  rcases List.mem_append.mp hc with h | h
  · exact hx c h
  · exact hy c h
theorem ends_sig {i : Nat} {j : Int} (h0 : 0 ≤ j) (h1 : j < 4) : ∀ c ∈ (Txt.item (endsOf i) j).cps.toList, 34 < c := by
  have key : ∀ e : Str, (e = Str.ofString "-xSs" ∨ e = Str.ofString "-xTt") → ∀ c ∈ (Txt.item e j).cps.toList, 34 < c := by
    rintro e (rfl | rfl)
    · exact small_cases (P := fun j => ∀ c ∈ (Txt.item (Str.ofString "-xSs") j).cps.toList, 34 < c) (n := 4) (by decide) h0 h1
    · exact small_cases (P := fun j => ∀ c ∈ (Txt.item (Str.ofString "-xTt") j).cps.toList, 34 < c) (n := 4) (by decide) h0 h1
  refine key _ ?_
  match i with
  | 0 => exact .inl rfl
  | 1 => exact .inl rfl
  | _ + 2 => exact .inr rfl
theorem sgn_sig (k : Int) : ∀ i, ∀ c ∈ (sgn i k).cps.toList, 34 < c
  | 0 => small_cases (P := fun j => ∀ c ∈ (Txt.item (Str.ofString "?pc?d?b?-?l?s???") j).cps.toList, 34 < c) (n := 16) (by decide) (Int.fmod_nonneg_of_pos _ (by decide)) (Int.fmod_lt_of_pos _ (by decide))
  | i + 1 => by
    show ∀ c ∈ (sgnStep i k (sgn i k)).cps.toList, 34 < c
    unfold sgnStep
    refine sig_app (sig_app (sig_app (sgn_sig k i) ?_) ?_) ?_
    · split <;> decide
    · split <;> decide
    · have a1 := Int.fmod_nonneg_of_pos (figOf i k) (b := 2) (by decide)
      have a2 := Int.fmod_lt_of_pos (figOf i k) (b := 2) (by decide)
      have b1 := Int.fmod_nonneg_of_pos (k.fdiv (highOf i)) (b := 2) (by decide)
      have b2 := Int.fmod_lt_of_pos (k.fdiv (highOf i)) (b := 2) (by decide)
      exact ends_sig (by omega) (by omega)
theorem sgn_Sig (k : Int) : Sig (sgn 3 k).cps.toList := ⟨by rw [Array.length_toList]; exact sgn_len 3 k, sgn_sig k 3⟩

/-- kind by kind -/
noncomputable def kindNo (r : Int × Int × Int) : Int := (r.1.fdiv 4096).fmod 16
theorem kind_nonneg {r : Int × Int × Int} : 0 ≤ kindNo r := Int.fmod_nonneg_of_pos _ (by decide)
theorem kind_lt {r : Int × Int × Int} : kindNo r < 16 := Int.fmod_lt_of_pos _ (by decide)
theorem keyOf_fst {r : Int × Int × Int} : (keyOf r).1 = kindNo r * 4096 := by
  unfold keyOf kindNo
  rw [Int.fdiv_eq_ediv_of_nonneg _ (by decide), Int.fmod_eq_emod_of_nonneg _ (by decide)]
noncomputable def restFrom (rows : List (Int × Int × Int)) (n : Nat) : List (Int × Int × Int) := rows.filter fun r => decide ((n : Int) ≤ kindNo r)

theorem filter_split {rows : List (Int × Int × Int)} {n : Nat} : (rows.filter (inKind n) ++ restFrom rows (n + 1)).Perm (restFrom rows n) := by
  have h := List.filter_append_perm (inKind n) (restFrom rows n)
  refine List.Perm.trans (List.Perm.of_eq ?_) h
  unfold restFrom
  rw [List.filter_filter, List.filter_filter]
  congr 1
  · refine List.filter_congr fun r _ => ?_
    have : inKind n r = (kindNo r == (n : Int)) := rfl
    rw [this]
    by_cases q : kindNo r = n
    · simp [q]
    · simp [q]
  · refine List.filter_congr fun r _ => ?_
    have : inKind n r = (kindNo r == (n : Int)) := rfl
    rw [this]
    by_cases q : kindNo r = n
    · rw [q]; simp; omega
    · have q' : (kindNo r == (n : Int)) = false := by simpa using q
      rw [q']
      simp only [Bool.not_false, Bool.true_and]
      congr 1
      apply propext
      omega

theorem kindRows_run {rows : List (Int × Int × Int)} (hok : ∀ r ∈ rows, 0 ≤ r.1 ∧ r.1 < 2 ^ 20 ∧ 0 ≤ r.2.1 ∧ r.2.1 ≤ 3 ∧ 0 ≤ r.2.2 ∧ r.2.2 ≤ 3) (n : Nat) :
    Runs ((rows.filter (inKind n)).map keyOf) (dueKind n rows) [] := by
  have hh : ∀ h ∈ hereL n rows, HOk h := fun h hh => by
    obtain ⟨r, hr, rfl⟩ := List.mem_map.mp hh
    obtain ⟨_, _, b3, b4, b5, b6⟩ := hok r (List.mem_filter.mp hr).1
    exact ⟨sgn_Sig r.1, b3, b4, b5, b6⟩
  refine Runs.perm (List.Perm.of_eq ?_) (kind_run (kd := n) hh)
  unfold hereL
  rw [List.map_map]
  refine List.map_congr_left fun r hr => ?_
  have ⟨h1, h2⟩ := List.mem_filter.mp hr
  obtain ⟨_, _, b3, b4, b5, b6⟩ := hok r h1
  have hk : kindNo r = n := eq_of_beq h2
  refine Prod.ext ?_ ?_
  · rw [keyOf_fst, hk]; rfl
  · show tx (min r.2.1.toNat 3) (sgn 3 r.1).cps.toList (r.2.2.toNat - (r.2.1.toNat - 3)) = marks r.2.1.toNat ++ (sgn 3 r.1).cps.toList ++ marks r.2.2.toNat
    rw [show min r.2.1.toNat 3 = r.2.1.toNat by omega, show r.2.2.toNat - (r.2.1.toNat - 3) = r.2.2.toNat by omega]
    rfl

theorem dueKind_fst {n : Nat} {rows : List (Int × Int × Int)} : ∀ m ∈ dueKind n rows, m.1 = (n : Int) * 4096 := by
  intro m hm
  unfold dueKind lvls at hm
  rcases List.mem_append.mp hm with h | h
  · obtain ⟨lv, _, h⟩ := List.mem_flatMap.mp h
    unfold lvlL at h
    obtain ⟨p, _, rfl⟩ := List.mem_map.mp h
    rfl
  · obtain ⟨p, _, h⟩ := List.mem_flatMap.mp h
    unfold downL at h
    obtain ⟨j, _, rfl⟩ := List.mem_map.mp h
    rfl

theorem rows_run {rows : List (Int × Int × Int)} (hok : ∀ r ∈ rows, 0 ≤ r.1 ∧ r.1 < 2 ^ 20 ∧ 0 ≤ r.2.1 ∧ r.2.1 ≤ 3 ∧ 0 ≤ r.2.2 ∧ r.2.2 ≤ 3) :
    ∀ n, Runs (rows.map keyOf) (dueL rows n) ((restFrom rows n).map keyOf)
  | 0 => by
    show (rows.map keyOf).Perm ((restFrom rows 0).map keyOf)
    have : restFrom rows 0 = rows := List.filter_eq_self.mpr fun r _ => decide_eq_true (by have := kind_nonneg (r := r); simpa using this)
    rw [this]
  | n + 1 => by
    rw [dueL_succ]
    refine Runs.append (rows_run hok n) ?_
    have fr := Runs.frame (B := (restFrom rows (n + 1)).map keyOf) (kindRows_run hok n) (fun m hm x hx => by
      obtain ⟨r, hr, rfl⟩ := List.mem_map.mp hx
      have h2 := of_decide_eq_true (List.mem_filter.mp hr).2
      have e := dueKind_fst m hm
      have e2 := keyOf_fst (r := r)
      rintro (lt | ⟨q, _⟩) <;> omega)
    refine Runs.perm ?_ fr
    rw [← List.map_append]
    exact filter_split.map keyOf

theorem runs_due {ns : List Int} : Runs ((rowsOf ns).map keyOf) (dueL (rowsOf ns) 16) [] := by
  have := rows_run (rows := rowsOf ns) rows_ok 16
  have e : restFrom (rowsOf ns) 16 = [] := List.filter_eq_nil_iff.mpr fun r _ h => by
    have h1 := of_decide_eq_true h
    have h2 := kind_lt (r := r)
    omega
  rw [e] at this
  exact this
end

-- part PlS
section
open PySem PyProof.Rows PySem.Builtin.Str
set_option Elab.async false

theorem starts_iff {x : Str} : Txt.startswith x (Str.ofString "\"") = true ↔ x.cps.toList.head? = some 34 := by
  obtain ⟨⟨l⟩⟩ := x
  unfold Txt.startswith subAt
  show (decide (0 + 1 ≤ l.length) && ((⟨l⟩ : Array Nat).extract 0 (0 + 1) == #[34])) = true ↔ l.head? = some 34
  cases l with
  | nil => simp
  | cons c r => simp
theorem ends_iff {x : Str} : Txt.endswith x (Str.ofString "\"") = true ↔ x.cps.toList.getLast? = some 34 := by
  obtain ⟨⟨l⟩⟩ := x
  unfold Txt.endswith subAt
  show (decide (0 + 1 ≤ l.length) && ((⟨l⟩ : Array Nat).extract (l.length - 1) (l.length - 1 + 1) == #[34])) = true ↔ l.getLast? = some 34
  by_cases hl : l = []
  · subst hl; simp
  · obtain ⟨r, c, rfl⟩ : ∃ r c, l = r ++ [c] := ⟨l.dropLast, l.getLast hl, (List.dropLast_concat_getLast hl).symm⟩
    simp
theorem sliceF {x : Str} (h : x.cps.toList.head? = some 34) : (Txt.slice x (some 1) none).cps.toList = x.cps.toList.tail := by
  have hl : 1 ≤ x.length := by
    obtain ⟨⟨l⟩⟩ := x
    cases l with
    | nil => simp at h
    | cons c r => show 1 ≤ (c :: r).length; simp
  rw [slice_from_eq (b := (x.length : Int)) (by decide) (by omega) rfl]
  have e : x.cps.toList.length = x.length := Array.length_toList
  show (x.cps.toList.drop 1).take (((x.length : Int) - 1).toNat) = _
  rw [List.take_of_length_le (by rw [List.length_drop, e]; omega), List.drop_one]
theorem sliceB {x : Str} (h : x.cps.toList.getLast? = some 34) : (Txt.slice x none (some (-1))).cps.toList = x.cps.toList.dropLast := by
  have e : x.cps.toList.length = x.length := Array.length_toList
  have hl : 1 ≤ x.length := by
    obtain ⟨⟨l⟩⟩ := x
    cases l with
    | nil => simp at h
    | cons c r => show 1 ≤ (c :: r).length; simp
  rw [slice_to_neg (by decide)]
  have q := eq_of_beq (slice_closes_toL (x := x) (j := max 0 ((x.length : Int) + -1)) (by omega) (by omega))
  rw [q]
  show (x.cps.toList.drop (0 : Int).toNat).take (max 0 ((x.length : Int) + -1) - 0).toNat = _
  rw [List.dropLast_eq_take, e, show (max 0 ((x.length : Int) + -1) - 0).toNat = x.length - 1 by omega]
  rfl
theorem strip_cps {x : Str} : (stripT x).cps.toList = stripL x.cps.toList := by
  have hF : ∀ y : Str, y = (if Txt.startswith x (Str.ofString "\"") = true then Txt.slice x (some 1) none else x) → y.cps.toList = stripF x.cps.toList := by
    rintro y rfl
    unfold stripF
    by_cases h : Txt.startswith x (Str.ofString "\"") = true
    · rw [if_pos h, if_pos (starts_iff.mp h)]; exact sliceF (starts_iff.mp h)
    · rw [if_neg h, if_neg fun q => h (starts_iff.mpr q)]
  unfold stripT stripL
  generalize hy : (if Txt.startswith x (Str.ofString "\"") = true then Txt.slice x (some 1) none else x) = y
  rw [← hF y hy.symm]
  unfold stripB
  by_cases h : Txt.endswith y (Str.ofString "\"") = true
  · rw [if_pos h, if_pos (ends_iff.mp h)]; exact sliceB (ends_iff.mp h)
  · rw [if_neg h, if_neg fun q => h (ends_iff.mpr q)]
end

-- part PlF
section
open PySem PyProof.Rows
set_option Elab.async false
set_option maxRecDepth 100000

theorem and_or_iff {n a b : Nat} : n &&& (a ||| b) = a ||| b ↔ (n &&& a = a ∧ n &&& b = b) := by
  constructor
  · intro h
    have ha : (a ||| b) &&& a = a := by
      apply Nat.eq_of_testBit_eq; intro i
      rw [Nat.testBit_and, Nat.testBit_or]
      cases a.testBit i <;> cases b.testBit i <;> rfl
    have hb : (a ||| b) &&& b = b := by
      apply Nat.eq_of_testBit_eq; intro i
      rw [Nat.testBit_and, Nat.testBit_or]
      cases a.testBit i <;> cases b.testBit i <;> rfl
    constructor
    · have := congrArg (· &&& a) h
      rw [Nat.and_assoc, ha] at this
      exact this
    · have := congrArg (· &&& b) h
      rw [Nat.and_assoc, hb] at this
      exact this
  · rintro ⟨h1, h2⟩
    rw [Nat.and_or_distrib_left, h1, h2]
theorem band_nat {k : Int} {m : Nat} (h0 : 0 ≤ k) : Builtin.bitAnd k (m : Int) = ((k.toNat &&& m : Nat) : Int) := by
  unfold Builtin.bitAnd
  rw [decide_eq_true h0, decide_eq_true (show (0 : Int) ≤ (m : Int) by omega)]
  simp
theorem band_two {k : Int} {a b : Nat} (h0 : 0 ≤ k) : (Builtin.bitAnd k ((a ||| b : Nat) : Int) == ((a ||| b : Nat) : Int)) = ((Builtin.bitAnd k (a : Int) == (a : Int)) && (Builtin.bitAnd k (b : Int) == (b : Int))) := by
  rw [band_nat h0, band_nat h0, band_nat h0, Bool.eq_iff_iff, Bool.and_eq_true, beq_iff_eq, beq_iff_eq, beq_iff_eq]
  rw [Int.natCast_inj, Int.natCast_inj, Int.natCast_inj]
  exact and_or_iff
theorem band_one (n : Nat) (k : Int) : (Builtin.bitAnd k (2 ^ n) == 2 ^ n) = decide (k / 2 ^ n % 2 = 1) := by
  have h := bitAnd_shift n k 1
  rw [Int.mul_one, bitAnd_m1] at h
  rw [h]
  have hp : (0 : Int) < 2 ^ n := Int.pow_pos (by decide)
  rcases (show k / 2 ^ n % 2 = 0 ∨ k / 2 ^ n % 2 = 1 by omega) with e | e
  · rw [e]
    simp
    omega
  · rw [e]; simp

theorem pick_one {i : Nat} {k : Int} {b : Int} {c : Str} (n : Nat) (hi : i ≠ 0) (hb : b = 2 ^ n) (hr : rowData i = [(b, c)]) : pick i k = if k / b % 2 = 1 then c else Str.ofString "-" := by
  subst hb
  unfold pick
  rw [hr, List.find?_cons]
  have : hit i k (2 ^ n, c) = decide (k / 2 ^ n % 2 = 1) := by unfold hit; rw [if_neg hi]; exact band_one n k
  rw [this]
  by_cases q : k / 2 ^ n % 2 = 1
  · rw [decide_eq_true q, if_pos q]
  · rw [decide_eq_false q, if_neg q]; simp [hi]
theorem pick_three {i : Nat} {k : Int} {ab a b : Int} {c1 c2 c3 : Str} (n m : Nat) (h0 : 0 ≤ k) (hi : i ≠ 0) (ha : a = 2 ^ n) (hb : b = 2 ^ m) (hab : ab = ((2 ^ n ||| 2 ^ m : Nat) : Int)) (hr : rowData i = [(ab, c1), (a, c2), (b, c3)]) :
    pick i k = if k / a % 2 = 1 then (if k / b % 2 = 1 then c1 else c2) else if k / b % 2 = 1 then c3 else Str.ofString "-" := by
  have e1 : ∀ c, hit i k (a, c) = decide (k / a % 2 = 1) := fun c => by unfold hit; rw [if_neg hi, ha]; exact band_one n k
  have e2 : ∀ c, hit i k (b, c) = decide (k / b % 2 = 1) := fun c => by unfold hit; rw [if_neg hi, hb]; exact band_one m k
  have e3 : ∀ c, hit i k (ab, c) = (decide (k / a % 2 = 1) && decide (k / b % 2 = 1)) := fun c => by
    rw [← e1 c, ← e2 c]
    unfold hit
    rw [if_neg hi, if_neg hi, if_neg hi, ha, hb, hab]
    have := band_two (k := k) (a := 2 ^ n) (b := 2 ^ m) h0
    rw [this]
    simp
  unfold pick
  rw [hr, List.find?_cons, List.find?_cons, List.find?_cons, e1, e2, e3]
  by_cases q : k / a % 2 = 1 <;> by_cases q2 : k / b % 2 = 1 <;> simp [q, q2, hi]

theorem fd (k : Int) {b : Int} (h : 0 ≤ b) : k.fdiv b = k / b := Int.fdiv_eq_ediv_of_nonneg _ h
theorem fmd (k : Int) {b : Int} (h : 0 ≤ b) : k.fmod b = k % b := Int.fmod_eq_emod_of_nonneg _ h

theorem item4 (e : Str) (u h : Int) (hu : u = 0 ∨ u = 1) (hh : h = 0 ∨ h = 1) : Txt.item e (u + h * 2) = if h = 1 then (if u = 1 then Txt.item e 3 else Txt.item e 2) else if u = 1 then Txt.item e 1 else Txt.item e 0 := by
  rcases hu with rfl | rfl <;> rcases hh with rfl | rfl <;> rfl

theorem pick0 {k : Int} : pick 0 k = sgn 0 k := by
  unfold pick sgn
  rw [fd _ (by decide), fmd _ (by decide)]
  have h0 : 0 ≤ k / 4096 % 16 := Int.emod_nonneg _ (by decide)
  have h1 : k / 4096 % 16 < 16 := Int.emod_lt_of_pos _ (by decide)
  have e : hit 0 k = fun p => k / 4096 % 16 * 4096 == p.1 := by funext p; unfold hit; rw [if_pos rfl]
  rw [e]
  generalize k / 4096 % 16 = j at h0 h1
  have h : ∀ n : Fin 16, (match (rowData 0).find? (fun p => (n.val : Int) * 4096 == p.1) with | some p => p.2 | none => if (0 : Nat) = 0 then Str.ofString "?" else Str.ofString "-") = Txt.item (Str.ofString "?pc?d?b?-?l?s???") (n.val : Int) := by decide
  have := h ⟨j.toNat, by omega⟩
  rwa [show ((⟨j.toNat, by omega⟩ : Fin 16).val : Int) = j by simp; omega] at this

theorem step_eq {i j : Nat} {k : Int} {x : Str} {u b1 b2 hi : Int} {e0 e1 e2 e3 : Str} (hun : unitOf i = u) (hhi : highOf i = hi) (hu : 0 ≤ u) (hh : 0 ≤ hi)
    (q1 : ∀ k : Int, k / b1 % 2 = 1 ↔ 4 ≤ k / u % 8) (q2 : ∀ k : Int, k / b2 % 2 = 1 ↔ 2 ≤ k / u % 8 % 4)
    (p1 : pick (j + 1) k = if k / b1 % 2 = 1 then Str.ofString "r" else Str.ofString "-")
    (p2 : pick (j + 2) k = if k / b2 % 2 = 1 then Str.ofString "w" else Str.ofString "-")
    (p3 : pick (j + 3) k = if k / hi % 2 = 1 then (if k / u % 2 = 1 then e3 else e2) else if k / u % 2 = 1 then e1 else e0)
    (i0 : Txt.item (endsOf i) 0 = e0) (i1 : Txt.item (endsOf i) 1 = e1) (i2 : Txt.item (endsOf i) 2 = e2) (i3 : Txt.item (endsOf i) 3 = e3) :
    sgnStep i k x = ((x ++ pick (j + 1) k) ++ pick (j + 2) k) ++ pick (j + 3) k := by
  unfold sgnStep figOf
  rw [hun, hhi, fd _ hu, fd _ hh, fmd _ (by decide), fmd _ (by decide), fmd _ (by decide), fmd _ (by decide), p1, p2, p3]
  rw [show k / u % 8 % 2 = k / u % 2 by omega, item4 _ _ _ (by omega) (by omega), i0, i1, i2, i3]
  simp only [q1, q2]

theorem join10 {f : Nat → Str} : Txt.join (Str.ofString "") ((List.range 10).map f) = (((f 0 ++ f 1 ++ f 2 ++ f 3) ++ f 4 ++ f 5 ++ f 6) ++ f 7 ++ f 8 ++ f 9) := by
  have := eq_of_beq (join_closes (sep := Str.ofString "") (sep' := ⟨#[]⟩) (ys := (List.range 10).map f) rfl)
  rw [this]
  have e : (List.range 10).map f = [f 0, f 1, f 2, f 3, f 4, f 5, f 6, f 7, f 8, f 9] := rfl
  rw [e]
  apply Str.ext'
  apply Array.toList_inj.mp
  simp only [Str.join, Str.cps_append, Array.toList_append, List.append_assoc, List.nil_append]

theorem q_four (u k : Int) (hu : 0 ≤ u) : k / (u * 4) % 2 = 1 ↔ 4 ≤ k / u % 8 := by
  rw [← Int.ediv_ediv_of_nonneg hu]
  generalize k / u = x
  omega
theorem q_two (u k : Int) (hu : 0 ≤ u) : k / (u * 2) % 2 = 1 ↔ 2 ≤ k / u % 8 % 4 := by
  rw [← Int.ediv_ediv_of_nonneg hu]
  generalize k / u = x
  omega
theorem fm_eq {k : Int} (h0 : 0 ≤ k) (h1 : k < 2 ^ 20) : Txt.join (Str.ofString "") ((List.range 10).map fun i => pick i k) = sgn 3 k := by
  rw [join10]
  show _ = sgnStep 2 k (sgnStep 1 k (sgnStep 0 k (sgn 0 k)))
  rw [step_eq (i := 0) (j := 0) (u := 64) (b1 := 256) (b2 := 128) (hi := 2048) rfl rfl (by decide) (by decide) (fun k => q_four 64 k (by decide)) (fun k => q_two 64 k (by decide)) (pick_one 8 (by decide) rfl rfl) (pick_one 7 (by decide) rfl rfl)
    (pick_three 11 6 h0 (by decide) rfl rfl rfl rfl) rfl rfl rfl rfl]
  rw [step_eq (i := 1) (j := 3) (u := 8) (b1 := 32) (b2 := 16) (hi := 1024) rfl rfl (by decide) (by decide) (fun k => q_four 8 k (by decide)) (fun k => q_two 8 k (by decide)) (pick_one 5 (by decide) rfl rfl) (pick_one 4 (by decide) rfl rfl)
    (pick_three 10 3 h0 (by decide) rfl rfl rfl rfl) rfl rfl rfl rfl]
  rw [step_eq (i := 2) (j := 6) (u := 1) (b1 := 4) (b2 := 2) (hi := 512) rfl rfl (by decide) (by decide) (fun k => q_four 1 k (by decide)) (fun k => q_two 1 k (by decide)) (pick_one 2 (by decide) rfl rfl) (pick_one 1 (by decide) rfl rfl)
    (pick_three 9 0 h0 (by decide) rfl rfl rfl rfl) rfl rfl rfl rfl]
  rw [pick0]
end

-- part LAW
section
open PySem PySem.W PySem.Calls PyProof.Rows Mine.hd
set_option Elab.async false
set_option maxRecDepth 100000
set_option maxHeartbeats 8000000

theorem fill_LAW : ∀ (w : World) (h : Heap), (heap_39 w.params).In h → PySem.Challenge.rw_op0076_01 = PySem.Challenge.rw_op0076_01 := by
  k_fill
  intros
  rfl
noncomputable def LWheap (K : List (Addr × Obj)) (rows : List (Int × Int × Int)) (i : Nat) (acc : List Value) (news : List (Addr × Obj)) : Prop :=
  ∃ es, acc = List.map Elt.val es ∧ (∀ p ∈ K, p ∈ news) ∧ (∀ e ∈ es, e.ent ∈ news) ∧ es.map Elt.dat = (rows.take i).map keyOf
theorem LWheap.keep {K : List (Addr × Obj)} {rows : List (Int × Int × Int)} {i : Nat} {acc : List Value} {news : List (Addr × Obj)} (d : LWheap K rows i acc news) : ∀ p ∈ K, p ∈ news := by
  obtain ⟨_, _, h, _⟩ := d; exact h
theorem LWheap.len {K : List (Addr × Obj)} {rows : List (Int × Int × Int)} (i : Nat) (acc : List Value) (news : List (Addr × Obj)) (d : LWheap K rows i acc news) : acc.length ≤ i := by
  obtain ⟨sg, rfl, _, _, h⟩ := d
  have e := congrArg List.length h
  simp only [List.length_map, List.length_take] at e ⊢
  omega
theorem rows_len {ns : List Int} : (rowsOf ns).length ≤ 11 := by
  unfold rowsOf
  simp
  omega

theorem hereOk_rows {ns : List Int} : ∀ kd, ∀ p ∈ hereL kd (rowsOf ns), HereOk p := by
  intro kd p hp
  unfold hereL at hp
  obtain ⟨q, hq, rfl⟩ := List.mem_map.mp hp
  obtain ⟨b1, b2, b3, b4, b5, b6⟩ := rows_ok q (List.mem_filter.mp hq).1
  exact ⟨by show (sgn 3 q.1).cps.toList.length = 10; rw [Array.length_toList]; exact sgn_len 3 q.1, b3, b4, b5, b6⟩
theorem here_len {ns : List Int} : ∀ kd, (hereL kd (rowsOf ns)).length ≤ 11 := by
  intro kd
  unfold hereL
  have e2 := List.length_filter_le (inKind kd) (rowsOf ns)
  have := rows_len (ns := ns)
  simp only [List.length_map] at e2 ⊢
  omega
theorem pop_top {x z : Elt} {xs zs : List Elt} (h : xs ++ [x] = z :: zs) : popTop xs x = z := by
  cases xs with
  | nil => exact (List.cons.inj h).1
  | cons y ys => exact (List.cons.inj h).1
theorem news_but {g h h' : Heap} {L l : Addr} {o o' : Obj} {news : List (Addr × Obj)} (N : News g L h news) (hm : (l, o) ∈ news) (hb : But l h h') (ho : h'.get? l = some o') : News g L h' (upd l o' news) := fun p hp => by
  rcases upd_inv hp with rfl | ⟨hp, hn⟩
  · exact ⟨ho, (N _ hm).2⟩
  · exact ⟨hb _ _ hn (N p hp).1, (N p hp).2⟩
noncomputable def LWInv (g : Heap) (L hp tl rl : Addr) (K : List (Addr × Obj)) (s : Shared) (D : List Key) (k : Nat) (s' : Shared) : Prop :=
  ∃ h tk m news es n told nt out, s' = { s with heap := h, toks := tk } ∧ Fr g L h m ∧ News g L h news ∧ (hp, listOf (List.map Elt.val es).toArray n) ∈ news ∧ (tl, listOf (List.map Elt.val told).toArray nt) ∈ news ∧
    (∀ e ∈ es, e.ent ∈ news) ∧ (∀ e ∈ told, e.ent ∈ news) ∧ (∀ p ∈ K, p ∈ news) ∧ HeapOk es ∧ Runs (es.map Elt.dat) out [] ∧ told.map Elt.dat ++ out = D ∧ (∀ e ∈ es, e.t.length ≤ 16) ∧ es.length ≤ 11 ∧ k = out.length ∧
    Pinned m [(Str.ofString "rows", .ref rl), (Str.ofString "heap", .ref hp), (Str.ofString "told", .ref tl)]

theorem law_holds : PySem.Challenge.rw_op0076_01.Holds := Mine.hd (by
  k_go0
  (all_goals try k_fold)
  rename_i w s₀ s₁ mg mb G Y fa o pm doc kV ho hg KX X V GL T B TE TW w9 w8 M cd w6 hcd ns hs hlay0 hL1 hr1 hl2 w4 w3 l vs w0 hL ra w1 r0 hI hr hcond hcond' K0 hD h₁ F N0
  refine wpAny_mono (E := fun _ _ => False) ?_ (fun _ _ x => x) (fun _ _ x => x.elim)
  have hln : ns.length ≤ 63 := by omega
  walk_at "go"
  refine lawrows_spec (ns := ns) KX T F.keep (hL.at fun o e => F.keep _ _ e) hI hln rfl (by rw [depth_deeper]; decide) (by rw [Around.deeper_units]; decide) ?_
  intro h2 tk2 rl rs n st2 hrl0 hrl hrs hdat
  have hrb : ∀ r ∈ rs, 0 ≤ r.md ∧ r.md < 2 ^ 20 ∧ 0 ≤ r.ah ∧ r.ah ≤ 3 ∧ 0 ≤ r.bh ∧ r.bh ≤ 3 := fun r hr => rows_ok r.dat (hdat ▸ List.mem_map_of_mem hr)
  have hrlen : rs.length ≤ 11 := by have := rows_len (ns := ns); rw [← hdat, List.length_map] at this; exact this
  have F2 := fr_ext F st2
  have fresh2 : ∀ a : Addr, h₁.get? a = none → a ≠ s₁.heap.objs.size ∧ s₁.heap.get? a = none := fun a ha => by
    refine ⟨fun e => ?_, ?_⟩
    · obtain ⟨oL, _, _, hoL, _⟩ := F.ns
      rw [e, hoL] at ha; cases ha
    · cases q : s₁.heap.get? a with
      | none => rfl
      | some o => rw [F.keep _ _ q] at ha; cases ha
  have N2 : News s₁.heap s₁.heap.objs.size h2 ((rl, listOf (List.map Row.val rs).toArray n) :: rs.map Row.ent) := fun p hp => by
    rcases List.mem_cons.mp hp with rfl | hp
    · exact ⟨hrl, fresh2 _ hrl0⟩
    · obtain ⟨r, hr, rfl⟩ := List.mem_map.mp hp
      exact ⟨(hrs r hr).1, fresh2 _ (hrs r hr).2.1⟩
  walk_at "go"
  rename_i F3 N3
  generalize hK3e : (rl, listOf (List.map Row.val rs).toArray n) :: rs.map Row.ent = K3 at N3
  have hK3l : (rl, listOf (List.map Row.val rs).toArray n) ∈ K3 := hK3e ▸ .head _
  have hK3r : ∀ r ∈ rs, r.ent ∈ K3 := fun r hr => hK3e ▸ .tail _ (List.mem_map_of_mem hr)
  refine comp_assign' (L := s₁.heap.objs.size) (g := s₁.heap) (cl := []) rfl rfl rfl (by decide) (by decide) rfl rfl rfl rfl (LWheap K3 (rowsOf ns)) LWheap.len TgtOk.tup ?_
  walk_at "go"
  refine ⟨rl, List.map Row.val rs, _, K3, rfl, ?_, .inr ⟨_, fun _ _ _ hJ => hJ.keep _ hK3l⟩, ⟨_, News.get N3 hK3l, rfl, _, rfl⟩, F3, N3, ⟨[], rfl, fun p hp => hp, (fun _ he => nomatch he), rfl⟩, ?_, ?_⟩
  · rw [List.length_map]; omega
  · intro C I4 D4 oL j4 v4 acc4 n4 mc4 news4 o4 h4 tk4 hj4 hv4 hJ4 hoff4 F4 N4
    obtain ⟨es, rfl, hK4, hes, hdt⟩ := hJ4
    have hj' : j4 < rs.length := by simpa using hj4
    rw [List.getElem?_map, List.getElem?_eq_getElem hj'] at hv4
    obtain rfl := Option.some.inj hv4
    generalize hre : rs[j4] = r
    have hrm : r ∈ rs := by rw [← hre]; exact List.getElem_mem hj'
    obtain ⟨b1, b2, b3, b4, b5, b6⟩ := hrb r hrm
    have hdr : (rowsOf ns)[j4]? = some r.dat := by rw [← hdat, List.getElem?_map, List.getElem?_eq_getElem hj', hre]; rfl
    have hrN : r.ent ∈ news4 := hK4 _ (hK3r r hrm)
    refine unpack3 rfl (⟨_, News.get N4 (.tail _ (.tail _ (.tail _ hrN))), rfl, 0, rfl⟩) F4 N4 ?_
    intro h5 F5 N5
    walk_at "go"
    refine store_here (L := C) rfl rfl F5 N5 ?_
    intro h6 F6 N6
    walk_at "go"
    refine store_here (L := C) rfl rfl F6 N6 ?_
    intro h7 F7 N7
    walk_at "go"
    refine store_here (L := C) rfl rfl F7 N7 ?_
    intro h8 F8 N8
    unfold testsOf
    walk_at "go"
    refine read_here (L := C) rfl rfl rfl F8 rfl ?_
    walk_at "go"
    refine ifmt_spec KX T F8.keep (by rw [depth_deeper]; decide) (by rw [Around.deeper_units]; decide) b1 b2 ?_
    intro h9 tk9 t9 st9
    have F9 := fr_ext F8 st9
    have N9 := news_ext N8 st9
    walk_at "go"
    refine read_here (L := C) rfl rfl rfl F9 rfl ?_
    walk_at "go"
    refine read_here (L := C) rfl rfl rfl F9 rfl ?_
    walk_at "go"
    refine filemode_spec KX T F9.keep rfl (by rw [depth_deeper]; decide) (by rw [Around.deeper_units]; decide) b1 b2 ?_
    intro h10 tk10 t10 st10
    have F10 := fr_ext F9 st10
    have N10 := news_ext N9 st10
    rw [fm_eq b1 b2]
    have hsl : (sgn 3 r.md).length = 10 := sgn_len 3 r.md
    walk_at "go"
    refine read_here (L := C) rfl rfl rfl F10 rfl ?_
    walk_at "go"
    refine new_tup F10 N10 (by simp) ?_
    intro h11 a11 F11 N11 hd11 _
    obtain ⟨e11, rfl, hke, N11⟩ : ∃ e : Elt, e.a = a11 ∧ e.dat = keyOf r.dat ∧ News s₁.heap C h11 (e.ent :: (I4, o4) :: (D4, listOf (List.map Elt.val es).toArray n4) :: (s₁.heap.objs.size, oL) :: news4) := by
      refine ⟨⟨a11, _, _, _, _⟩, rfl, ?_, N11⟩
      simp only [Elt.dat, keyOf, Str.cps_append, Array.toList_append, mul_marks, Row.dat]
    refine compP_end F11 N11 (.tail _ (.head _)) (.tail _ (.tail _ (.head _))) (.tail _ (.tail _ (.tail _ (.head _)))) ⟨es ++ [e11], by rw [List.map_append]; rfl, fun p hp => mem_off3 (.tail _ (.tail _ (.tail _ (.tail _ (hK4 p hp))))) (hoff4 p (hK4 p hp)), fun e he => ?_, ?_⟩
    · rcases List.mem_append.mp he with q | q
      · exact mem_off3 (.tail _ (.tail _ (.tail _ (.tail _ (hes e q))))) (hoff4 _ (hes e q))
      · rw [List.mem_singleton.mp q]
        exact mem_off3 (.head _) ⟨Ne.symm (hd11 _ (.head _)), Ne.symm (hd11 _ (.tail _ (.head _))), Ne.symm (hd11 _ (.tail _ (.tail _ (.head _))))⟩
    · rw [take_snoc? hdr, List.map_append, List.map_append, hdt]
      simp [hke]
  · intro hp5 acc5 n5 news5 h5 tk5 hJ5 F5 N5 hoff5
    obtain ⟨es, rfl, hK5, hes, hdt⟩ := hJ5
    rw [List.length_map, show rs.length = (rowsOf ns).length by rw [← hdat, List.length_map], List.take_length] at hdt
    dsimp only
    walk_at "go"
    have hesl : es.length ≤ 11 := by
      have e := congrArg List.length hdt
      have := rows_len (ns := ns)
      simp only [List.length_map] at e
      omega
    have hest : ∀ e ∈ es, e.t.length ≤ 16 := by
      intro e he
      have : e.dat ∈ (rowsOf ns).map keyOf := hdt ▸ List.mem_map_of_mem he
      obtain ⟨r, hr, q⟩ := List.mem_map.mp this
      obtain ⟨b1, b2, b3, b4, b5, b6⟩ := rows_ok r hr
      have e1 : e.t.cps.toList = (keyOf r).2 := (congrArg Prod.snd q).symm
      have e2 : e.t.length = (keyOf r).2.length := by rw [← e1]; exact (Array.length_toList).symm
      have e3 : (sgn 3 r.1).cps.toList.length = 10 := by rw [Array.length_toList]; exact sgn_len 3 r.1
      rw [e2]
      simp only [keyOf, marks, List.length_append, List.length_replicate, e3]
      omega
    refine heapify_spec KX T F5.keep (News.fresh N5 (.head _)) (News.get N5 (.head _)) rfl (by rw [depth_deeper]; decide) (by rw [Around.deeper_units]; decide) (by omega) (fun e he => ⟨News.get N5 (.tail _ (hes e he)), hoff5 _ (hes e he)⟩) ?_
    intro h6 tk6 hb6 hl6
    have F6 := Fr.but F5 hb6 (N5 _ (.head _)).2.1 (N5 _ (.head _)).2.2
    have N6 := News.but N5 hb6 hoff5 hl6
    walk_at "go"
    refine new_lst F6 N6 (by simp) ?_
    intro h7 tl F7 N7 hd7 _
    walk_at "go"
    rename_i F8 N8
    have hne : tl ≠ hp5 := Ne.symm (hd7 _ (.head _))
    have hKn : ∀ p ∈ K3, p.1 ≠ hp5 ∧ p.1 ≠ tl := fun p hp => ⟨hoff5 p (hK5 p hp), hd7 p (.tail _ (hK5 p hp))⟩
    refine while_ind (LWInv s₁.heap s₁.heap.objs.size hp5 tl rl K3 s₁ (dueL (rowsOf ns) 16)) ?turn _ ⟨_, _, _, _, hfLoop (es.length / 2) es, n5, [], 0, _, rfl, F8, N8, .tail _ (.head _), .head _, fun e he => .tail _ (.tail _ (hes e (hf_perm.mem_iff.mp he))), (fun _ he => nomatch he), fun p hp => .tail _ (.tail _ (hK5 p hp)), hf_ok,
      Runs.perm (hdt ▸ (hf_perm.map Elt.dat).symm) runs_due, rfl, fun e he => hest e (hf_perm.mem_iff.mp he), by rw [hf_perm.length_eq]; exact hesl, rfl, rfl, rfl, rfl, trivial⟩
    case turn =>
      clear hdt hest hesl hes
      rintro k s' ⟨h', tk', m', news', es, n, told, nt, out, rfl, F, N, hhp, htl, hes, htold, hK, hok, hrun, hD, hest, hesl, hk, hm⟩
      replace F := Fr.pins F hm
      walk_at "go"
      refine get_truth (News.get N hhp) (by rw [List.length_map]; omega) ?_
      intro tk9
      cases es with
      | nil =>
        have ho := Runs.nil hrun
        subst ho
        rw [List.append_nil] at hD
        walk_at "go"
        have hK3 := hK
        refine lawdue_spec (rs := rs) KX T F.keep (News.get N (hK _ hK3l)) (fun r hr => News.get N (hK _ (hK3r r hr))) hrlen hrb rfl (by rw [depth_deeper]; decide) (by rw [Around.deeper_units]; decide) ?_
        intro h10 tk10 dl due nd st10 hdl hdue hdd
        have F10 := fr_ext F st10
        have N10 := news_ext N st10
        refine eq_elts (News.get N10 htl) hdl (fun e he => News.get N10 (htold e he)) hdue (by rw [hD, hdd, hdat]) (by rw [Around.deeper_units]; decide) ?_
        refine goodW_bool F10 hg (raisesW_false ?_) ?_
        · wrow_none_raised
        · wrow_post
      | cons z zs =>
        obtain ⟨out', rfl, hrun'⟩ := Runs.step hrun (heap_min hok)
        replace N := news_sub (news' := (hp5, listOf (List.map Elt.val (z :: zs)).toArray n) :: (tl, listOf (List.map Elt.val told).toArray nt) :: news') N (fun p hp => by
          rcases List.mem_cons.mp hp with rfl | hp
          · exact hhp
          rcases List.mem_cons.mp hp with rfl | hp
          · exact htl
          · exact hp)
        walk_at "go"
        · rename_i he
          exact absurd he (by simp)
        refine sub_get (News.get N (.head _)) 0 rfl (by omega) rfl ?_
        walk_at "go"
        refine unpack2 rfl (⟨_, News.get N (.tail _ (.tail _ (hes z (.head _)))), rfl, 0, rfl⟩) F N ?_
        intro h10 F10 N10
        walk_at "go"
        rename_i F11 N11
        have hzt : z.t.length ≤ 16 := hest z (.head _)
        refine strip_spec KX T F11.keep (by rw [depth_deeper]; decide) (by rw [Around.deeper_units]; decide) (by omega) ?_
        intro h12 tk12 t12 st12
        have F12 := fr_ext F11 st12
        have N12 := news_ext N11 st12
        have htl' : told.length < 2 ^ 19 := by
          have e := congrArg List.length hD
          have e2 := dueL_len (hereOk_rows (ns := ns)) (here_len (ns := ns)) 16
          simp only [List.length_append, List.length_map] at e
          omega
        walk_at "go"
        · rename_i F13 N13 hbe
          have hbe' : stripT z.t = z.t := eq_of_beq hbe
          obtain ⟨xs, x, hxs⟩ : ∃ xs x, xs ++ [x] = z :: zs := ⟨(z :: zs).dropLast, (z :: zs).getLast (by simp), List.dropLast_concat_getLast (by simp)⟩
          rw [← hxs] at N13
          have hlx : xs.length < 2 ^ 19 := by
            have e := congrArg List.length hxs
            simp only [List.length_append, List.length_cons, List.length_nil] at e hesl
            omega
          have hent : ∀ e ∈ xs ++ [x], e.ent ∈ (tl, listOf (List.map Elt.val told).toArray nt) :: news' := fun e he => .tail _ (hes e (hxs ▸ he))
          refine heappop_spec (xs := xs) (x := x) (n := n) KX T F13.keep (News.fresh N13 (.head _)) (News.get N13 (.head _)) (by rw [depth_deeper]; decide) (by rw [Around.deeper_units]; decide) hlx (fun e he => ⟨News.get N13 (.tail _ (hent e he)), news_ne N13 (.tail _ (hent e he)) (.head _) tup_list⟩) ?_
          intro h14 tk14 n14 hb14 hl14
          have F14 := Fr.but F13 hb14 (N13 _ (.head _)).2.1 (N13 _ (.head _)).2.2
          have N14 := news_but N13 (.head _) hb14 hl14
          rw [pop_top hxs]
          walk_at "go"
          refine app_mem (vs := List.map Elt.val told) (n := nt) F14 N14 (upd_mem (.tail _ (.head _)) hne) (by rw [List.length_map]; omega) ?_
          intro h15 F15 N15
          walk_at "go"
          have keepE : ∀ e : Elt, e.ent ∈ news' → e.ent ∈ upd tl (listOf (List.map Elt.val told ++ [Value.ref z.a]).toArray (nt + 1)) (upd hp5 (listOf (List.map Elt.val (popRest xs x)).toArray n14) ((hp5, listOf (List.map Elt.val (xs ++ [x])).toArray n) :: (tl, listOf (List.map Elt.val told).toArray nt) :: news')) := fun e he =>
            upd_mem (upd_mem (.tail _ (.tail _ he)) (news_ne N13 (.tail _ (.tail _ he)) (.head _) tup_list)) (news_ne N13 (.tail _ (.tail _ he)) (.tail _ (.head _)) tup_list)
          have hpp : (popTop xs x :: popRest xs x).Perm (z :: zs) := hxs ▸ pop_perm
          rw [pop_top hxs] at hpp
          have hpz := hpp.cons_inv
          dsimp only [TurnP]
          refine ⟨out'.length, by rw [hk]; simp, _, _, _, _, popRest xs x, n14, told ++ [z], nt + 1, out', rfl, F15, N15, upd_mem upd_self (Ne.symm hne), ?_, fun e he => keepE e (hes e (.tail _ (hpz.mem_iff.mp he))), ?_, ?_, pop_ok (hxs ▸ hok), ?_, ?_, fun e he => hest e (.tail _ (hpz.mem_iff.mp he)), ?_, rfl, rfl, rfl, rfl, trivial⟩
          · rw [show List.map Elt.val (told ++ [z]) = List.map Elt.val told ++ [Value.ref z.a] by rw [List.map_append]; rfl]
            exact upd_self
          · intro e he
            rcases List.mem_append.mp he with q | q
            · exact keepE e (htold e q)
            · rw [List.mem_singleton.mp q]; exact keepE z (hes z (.head _))
          · exact upd_sub (upd_sub (fun p hp => .tail _ (.tail _ (hK p hp))) fun p hp => (hKn p hp).1) fun p hp => (hKn p hp).2
          · refine Runs.perm ?_ hrun'
            have e2 : stripL z.dat.2 = z.dat.2 := by show stripL z.t.cps.toList = z.t.cps.toList; rw [← strip_cps, hbe']
            unfold nextK
            rw [if_pos e2]
            exact (hpz.map Elt.dat).symm
          · rw [List.map_append, List.append_assoc]; exact hD
          · have := hpz.length_eq
            simp only [List.length_cons] at hesl
            omega
        · rename_i F13 N13 hbe
          have hbe' : stripT z.t ≠ z.t := fun e => by rw [e] at hbe; simp at hbe
          refine new_tup F13 N13 (by simp) ?_
          intro h14 a14 F14 N14 hd14 _
          obtain ⟨e14, rfl, hk14, ht14, N14⟩ : ∃ e : Elt, e.a = a14 ∧ e.k = z.k ∧ e.t = stripT z.t ∧ News s₁.heap s₁.heap.objs.size h14 (e.ent :: (hp5, listOf (List.map Elt.val (z :: zs)).toArray n) :: (tl, listOf (List.map Elt.val told).toArray nt) :: news') := ⟨⟨a14, z.k, stripT z.t, _, _⟩, rfl, rfl, rfl, N14⟩
          walk_at "go"
          have hent : ∀ e ∈ e14 :: z :: zs, e.ent ∈ e14.ent :: (hp5, listOf (List.map Elt.val (z :: zs)).toArray n) :: (tl, listOf (List.map Elt.val told).toArray nt) :: news' := fun e he => by
            rcases List.mem_cons.mp he with rfl | he
            · exact .head _
            · exact .tail _ (.tail _ (.tail _ (hes e he)))
          refine heapreplace_spec (z := z) (zs := zs) (x := e14) (n := n) KX T F14.keep (News.fresh N14 (.tail _ (.head _))) (News.get N14 (.tail _ (.head _))) (by rw [depth_deeper]; decide) (by rw [Around.deeper_units]; decide) (by simp only [List.length_cons] at hesl; omega) (fun e he => ⟨News.get N14 (hent e he), news_ne N14 (hent e he) (.tail _ (.head _)) tup_list⟩) ?_
          intro h15 tk15 n15 hb15 hl15
          have F15 := Fr.but F14 hb15 (N14 _ (.tail _ (.head _))).2.1 (N14 _ (.tail _ (.head _))).2.2
          have N15 := news_but N14 (.tail _ (.head _)) hb15 hl15
          walk_at "go"
          refine app_mem (vs := List.map Elt.val told) (n := nt) F15 N15 (upd_mem (.tail _ (.tail _ (.head _))) hne) (by rw [List.length_map]; omega) ?_
          intro h16 F16 N16
          walk_at "go"
          have keepE : ∀ e : Elt, e.ent ∈ e14.ent :: (hp5, listOf (List.map Elt.val (z :: zs)).toArray n) :: (tl, listOf (List.map Elt.val told).toArray nt) :: news' → e.ent ∈ upd tl (listOf (List.map Elt.val told ++ [Value.ref z.a]).toArray (nt + 1)) (upd hp5 (listOf (List.map Elt.val (suL (e14 :: zs) 0 e14)).toArray n15) (e14.ent :: (hp5, listOf (List.map Elt.val (z :: zs)).toArray n) :: (tl, listOf (List.map Elt.val told).toArray nt) :: news')) := fun e he =>
            upd_mem (upd_mem he (news_ne N14 he (.tail _ (.head _)) tup_list)) (news_ne N14 he (.tail _ (.tail _ (.head _))) tup_list)
          have hpz : (suL (e14 :: zs) 0 e14).Perm (e14 :: zs) := su_perm
          have hmem : ∀ e ∈ suL (e14 :: zs) 0 e14, e = e14 ∨ e ∈ zs := fun e he => List.mem_cons.mp (hpz.mem_iff.mp he)
          dsimp only [TurnP]
          refine ⟨out'.length, by rw [hk]; simp, _, _, _, _, suL (e14 :: zs) 0 e14, n15, told ++ [z], nt + 1, out', rfl, F16, N16, upd_mem upd_self (Ne.symm hne), ?_, ?_, ?_, ?_, su_ok hok, ?_, ?_, ?_, ?_, rfl, rfl, rfl, rfl, trivial⟩
          · rw [show List.map Elt.val (told ++ [z]) = List.map Elt.val told ++ [Value.ref z.a] by rw [List.map_append]; rfl]
            exact upd_self
          · intro e he
            refine keepE e (hent e ?_)
            rcases hmem e he with rfl | q
            · exact .head _
            · exact .tail _ (.tail _ q)
          · intro e he
            rcases List.mem_append.mp he with q | q
            · exact keepE e (.tail _ (.tail _ (.tail _ (htold e q))))
            · rw [List.mem_singleton.mp q]; exact keepE z (hent z (.tail _ (.head _)))
          · exact upd_sub (upd_sub (fun p hp => .tail _ (.tail _ (.tail _ (hK p hp)))) fun p hp => (hKn p hp).1) fun p hp => (hKn p hp).2
          · refine Runs.perm ?_ hrun'
            have e2 : ¬ stripL z.dat.2 = z.dat.2 := fun q => by
              apply hbe'
              have q' : (stripT z.t).cps.toList = z.t.cps.toList := by rw [strip_cps]; exact q
              exact Str.ext' (Array.toList_inj.mp q')
            have e3 : e14.dat = (z.dat.1, stripL z.dat.2) := by
              unfold Elt.dat
              rw [hk14, ht14, strip_cps]
            unfold nextK
            rw [if_neg e2, ← e3]
            exact (hpz.map Elt.dat).symm
          · rw [List.map_append, List.append_assoc]; exact hD
          · intro e he
            rcases hmem e he with rfl | q
            · rw [ht14]
              have e1 : (stripT z.t).length = (stripT z.t).cps.toList.length := (Array.length_toList).symm
              have e2 : z.t.length = z.t.cps.toList.length := (Array.length_toList).symm
              have e3 := strip_len (x := z.t.cps.toList)
              rw [← strip_cps] at e3
              omega
            · exact hest e (.tail _ q)
          · rw [hpz.length_eq]
            simp only [List.length_cons] at hesl ⊢
            exact hesl)
end

end Mine
end

theorem PySem.Challenge.cw_op0076_01_holds : PySem.Challenge.rw_op0076_01.Holds :=
  Mine.law_holds
