import PyProof.Rows.All
import Wide.All
import OpenK.AllK
import Wide.FinOn
import Lean
import PySem.Challenge.RW_zz0003_01
set_option Elab.async false
set_option compiler.extract_closed false
set_option maxRecDepth 100000
set_option maxHeartbeats 8000000
set_option linter.all false
set_option rowWalk.seconds 0
namespace Mine
open PySem PySem.W PyProof.Rows
open_top hd for PySem.Challenge.rw_zz0003_01
end Mine

/- D0 -/
namespace Mine
open PySem PySem.W PyProof.Rows PySem.Calls PySem.Spec
abbrev Pt := Int × Int
abbrev pd (p : Pt) : Dat := .tuple [.int p.1, .int p.2]
def turn (a b c : Pt) : Int := (b.1 - a.1) * (c.2 - a.2) - (c.1 - a.1) * (b.2 - a.2)
def Bd (p : Pt) : Prop := -100 ≤ p.1 ∧ p.1 ≤ 100 ∧ -100 ≤ p.2 ∧ p.2 ≤ 100

/-- a pair of ints at v, in the ledger -/
def PIn (news : List (Addr × Obj)) (v : Value) (p : Pt) : Prop :=
  ∃ (a : Addr) (n : Nat) (t u : Tok), v = .ref a ∧ (a, ({ cls := .type "tuple", data := .seq #[.int p.1 t, .int p.2 u] n } : Obj)) ∈ news
/-- a list of pairs, place by place -/
inductive PAll (news : List (Addr × Obj)) : List Value → List Pt → Prop
  | nil : PAll news [] []
  | cons {v : Value} {vs : List Value} {p : Pt} {ps : List Pt} : PIn news v p → PAll news vs ps → PAll news (v :: vs) (p :: ps)
theorem PIn.mono {news news' : List (Addr × Obj)} {v : Value} {p : Pt} (h : PIn news v p) (hs : ∀ q ∈ news, q ∈ news') : PIn news' v p := by
  obtain ⟨a, n, t, u, e, h⟩ := h
  exact ⟨a, n, t, u, e, hs _ h⟩
theorem PIn.dat {news : List (Addr × Obj)} {v : Value} {p : Pt} (h : PIn news v p) : DatIn news v (pd p) := by
  obtain ⟨a, n, t, u, rfl, h⟩ := h
  exact .tuple (vs := [.int p.1 t, .int p.2 u]) h (.cons (.int _ _) (.cons (.int _ _) .nil))
section
variable {news news' : List (Addr × Obj)} {v : Value} {p : Pt} {vs ws : List Value} {ps qs : List Pt}
theorem PAll.mono (h : PAll news vs ps) (hs : ∀ q ∈ news, q ∈ news') : PAll news' vs ps := by
  induction h with
  | nil => exact .nil
  | cons a _ ih => exact .cons (a.mono hs) ih
theorem PAll.dat (h : PAll news vs ps) : DatAll news vs (ps.map pd) := by
  induction h with
  | nil => exact .nil
  | cons a _ ih => exact .cons a.dat ih
theorem PAll.length (h : PAll news vs ps) : vs.length = ps.length := by
  induction h with
  | nil => rfl
  | cons a _ ih => simp [ih]
theorem PAll.append (h : PAll news vs ps) (k : PAll news ws qs) : PAll news (vs ++ ws) (ps ++ qs) := by
  induction h with
  | nil => exact k
  | cons a _ ih => exact .cons a ih
theorem PAll.one (h : PIn news v p) : PAll news [v] [p] := .cons h .nil
theorem PAll.get (h : PAll news vs ps) {k : Nat} (hk : k < ps.length) : ∃ v, vs[k]? = some v ∧ PIn news v ps[k] := by
  induction h generalizing k with
  | nil => exact absurd hk (Nat.not_lt_zero _)
  | cons a _ ih =>
    cases k with
    | zero => exact ⟨_, rfl, a⟩
    | succ k => exact ih (Nat.lt_of_succ_lt_succ hk)
theorem PAll.snoc (h : PAll news vs (ps ++ [p])) : ∃ ws v, vs = ws ++ [v] ∧ PAll news ws ps ∧ PIn news v p := by
  induction ps generalizing vs with
  | nil =>
    cases h with
    | cons a r => cases r; exact ⟨[], _, rfl, .nil, a⟩
  | cons q ps ih =>
    cases h with
    | cons a r =>
      obtain ⟨ws, v, rfl, b, c⟩ := ih r
      exact ⟨_ :: ws, v, rfl, .cons a b, c⟩
theorem PAll.split (h : PAll news vs (ps ++ qs)) : ∃ us ws, vs = us ++ ws ∧ PAll news us ps ∧ PAll news ws qs := by
  induction ps generalizing vs with
  | nil => exact ⟨[], vs, rfl, .nil, h⟩
  | cons q ps ih =>
    cases h with
    | cons a r =>
      obtain ⟨ws, v, rfl, b, c⟩ := ih r
      exact ⟨_ :: ws, v, rfl, .cons a b, c⟩
theorem PAll.reverse (h : PAll news vs ps) : PAll news vs.reverse ps.reverse := by
  induction h with
  | nil => exact .nil
  | cons a _ ih => simp only [List.reverse_cons]; exact ih.append (.one a)
theorem PAll.take (h : PAll news vs ps) (k : Nat) : PAll news (vs.take k) (ps.take k) := by
  induction h generalizing k with
  | nil => simp; exact .nil
  | cons a _ ih =>
    cases k with
    | zero => exact .nil
    | succ k => exact .cons a (ih k)
theorem PAll.drop (h : PAll news vs ps) (k : Nat) : PAll news (vs.drop k) (ps.drop k) := by
  induction h generalizing k with
  | nil => simp; exact .nil
  | cons a b ih =>
    cases k with
    | zero => exact .cons a b
    | succ k => exact ih k
end

end Mine

/- R1 -/
namespace Mine
open PySem PySem.W PyProof.Rows PySem.Calls PySem.Spec
/-- a mark that holds the walk -/
def Stop (P : Prop) : Prop := P
theorem Stop.of {P : Prop} (h : Stop P) : P := h
theorem Stop.go {P : Prop} (h : P) : Stop P := h
section
variable {prog : Program} {w : World} {A : Around} {E : Value → Shared → Prop} {s : Shared} {h₀ : Heap} {L D : Addr} {m : Str → Option Value} {news news' : List (Addr × Obj)} {us ws : List Value} {c : Nat} {x vx vy : Value} {value slice : PySem.Expr} {k : Int} {u : Tok}
theorem my_isList (N : News h₀ L s.heap news) (hm : (D, listOf us.toArray c) ∈ news) : s.heap.IsList D us.toArray := ⟨_, (N _ hm).1, rfl, c, rfl⟩
theorem my_len {n : Int} {Q : Value → Shared → Prop} (N : News h₀ L s.heap news) (hm : (D, listOf us.toArray c) ∈ news) (e : (us.length : Int) = n) (hb : n < 2 ^ 63)
    (h : ∀ t tk, Q (.int n t) { s with toks := tk }) : wpAny (model prog w) A (call (.builtin "len") [.ref D]) Q E s := by
  subst e
  exact len_list (my_isList N hm) (by simpa using hb) (by simpa using h _ _)
theorem my_at {j : Nat} {Q : Value → Shared → Prop} (N : News h₀ L s.heap news) (hm : (D, listOf us.toArray c) ∈ news) (hb : us.length ≤ 1000) (hj : k = (j : Int) ∨ (k < 0 ∧ k + us.length = (j : Int))) (hx : us[j]? = some x) (h : Q x s)
    (hs : subscripted slice false (.ref D) (.int k u) = operate [.ref D, .int k u] (getItem (.ref D) (.int k u)) := by with_unfolding_all rfl) (hg : ∀ r, letTemporaryGo value (.ref D) r = pure () := by intro _; with_unfolding_all rfl) :
    wpAny (model prog w) A (subscriptTail value slice (.ref D) (.int k u)) Q E s := by
  have hjl : j < us.length := (List.getElem?_eq_some_iff.mp hx).1
  rcases hj with rfl | ⟨hk, e⟩
  · exact kim_list N hm rfl rfl (by omega) (by omega) (by simpa using hx) h hs hg
  · exact kim_back N hm rfl rfl hk (by omega) (by omega) (by rw [e]; simpa using hx) h hs hg
theorem my_back1 {Q : Value → Shared → Prop} (N : News h₀ L s.heap news) (hk : k = -1) (hm : (D, listOf (ws ++ [vx] ++ [vy]).toArray c) ∈ news) (hb : ws.length ≤ 900) (h : Q vy s)
    (hs : subscripted slice false (.ref D) (.int k u) = operate [.ref D, .int k u] (getItem (.ref D) (.int k u))) (hg : ∀ r, letTemporaryGo value (.ref D) r = pure ()) :
    wpAny (model prog w) A (subscriptTail value slice (.ref D) (.int k u)) Q E s :=
  my_at (j := ws.length + 1) N hm (by simp; omega) (.inr ⟨by omega, by simp; omega⟩) (by simp) h hs hg
theorem my_back2 {Q : Value → Shared → Prop} (N : News h₀ L s.heap news) (hk : k = -2) (hm : (D, listOf (ws ++ [vx] ++ [vy]).toArray c) ∈ news) (hb : ws.length ≤ 900) (h : Q vx s)
    (hs : subscripted slice false (.ref D) (.int k u) = operate [.ref D, .int k u] (getItem (.ref D) (.int k u))) (hg : ∀ r, letTemporaryGo value (.ref D) r = pure ()) :
    wpAny (model prog w) A (subscriptTail value slice (.ref D) (.int k u)) Q E s :=
  my_at (j := ws.length) N hm (by simp; omega) (.inr ⟨by omega, by simp; omega⟩) (by simp) h hs hg
theorem kl_last_snoc (ws : List Value) (v : Value) : kl_last (ws ++ [v]) = some (ws, v) := by
  induction ws with
  | nil => rfl
  | cons x r ih => rw [List.cons_append, kl_last, ih]
theorem my_pop {Q : Value → Shared → Prop} (F : Fr h₀ L s.heap m) (N : News h₀ L s.heap ((D, listOf (ws ++ [vy]).toArray c) :: news)) (hD : ∀ p ∈ news, p.1 ≠ D) (hb : ws.length ≤ 900)
    (h : ∀ h', Fr h₀ L h' m → News h₀ L h' ((D, listOf ws.toArray (c + 1)) :: news) → Q vy { s with heap := h' }) : wpAny (model prog w) A (call (.builtin "list.pop") [.ref D]) Q E s :=
  kl_pop F N (by rw [List.toList_toArray]; exact kl_last_snoc ws vy) (.head hD) (by simp [sizeLine_eq]; omega) h
theorem my_append {Q : Value → Shared → Prop} (F : Fr h₀ L s.heap m) (N : News h₀ L s.heap ((D, listOf ws.toArray c) :: news)) (hD : ∀ p ∈ news, p.1 ≠ D) (hb : ws.length ≤ 900)
    (h : ∀ h', Fr h₀ L h' m → News h₀ L h' ((D, listOf (ws ++ [vy]).toArray (c + 1)) :: news) → Q .none { s with heap := h' }) : wpAny (model prog w) A (call (.builtin "list.append") [.ref D, vy]) Q E s :=
  append_K F N (.head hD) (fun h' F' N' => h h' F' (by simpa using N')) (by simp [sizeLine_eq]; omega)
theorem my_insert {i : Nat} {Q : Value → Shared → Prop} (F : Fr h₀ L s.heap m) (N : News h₀ L s.heap ((D, listOf ws.toArray c) :: news)) (hD : ∀ p ∈ news, p.1 ≠ D) (hb : ws.length ≤ 900) (hi : i ≤ ws.length)
    (h : ∀ h', Fr h₀ L h' m → News h₀ L h' ((D, listOf (ws.take i ++ vy :: ws.drop i).toArray (c + 1)) :: news) → Q .none { s with heap := h' }) : wpAny (model prog w) A (call (.builtin "list.insert") [.ref D, .int (i : Int) u, vy]) Q E s := by
  refine kl_insert (l := ws.take i ++ vy :: ws.drop i) F N ?_ ?_ (.head hD) (by simp [sizeLine_eq]; omega) h
  · simp [Builtin.List.listFitsIndex]
    omega
  · unfold kl_ins
    have e : (if (i : Int) < 0 then ((i : Int) + (ws.toArray.toList.length : Int)).toNat else min (i : Int).toNat ws.toArray.toList.length) = i := by
      rw [if_neg (by omega), Int.toNat_natCast, List.toList_toArray, Nat.min_eq_left hi]
    rw [List.toList_toArray] at e ⊢
    rw [e]
theorem my_init {vl vu : Value} {Q : Value → Shared → Prop} (F : Fr h₀ L s.heap m) (N : News h₀ L s.heap news) (hm : (D, listOf us.toArray c) ∈ news) (pl : IsPart vl none) (pu : IsPart vu (some (-1))) (hb : us.length ≤ 1000)
    (h : ∀ D' h', Fr h₀ L h' m → News h₀ L h' ((D', listOf us.dropLast.toArray 0) :: news) → (∀ p ∈ news, p.1 < D') → Q (.ref D') { s with heap := h' })
    (hs : subscripted slice false (.ref D) (.ref s.heap.objs.size) = operate [.ref s.heap.objs.size, .ref D] (getItem (.ref D) (.ref s.heap.objs.size))) (ht : ∀ r, letTemporaryGo value (.ref D) r = pure ()) :
    wpAny (model prog w) A (subscriptTail value slice (.ref D) (.ref s.heap.objs.size)) Q E { s with heap := s.heap.push { cls := .type "slice", data := .fields #[vl, vu, .none] } } := by
  have e : sliceBounds none (some (-1)) none us.toArray.size = (((0 : Nat) : Int), ((us.length - 1 : Nat) : Int), 1) := by
    simp only [sliceBounds, Option.getD_none, show (1 : Int) > 0 by decide, if_true, if_pos (show (-1 : Int) < 0 by decide), List.size_toArray]
    congr 1
    congr 1
    omega
  refine kmk_slice_lit (zs := us.dropLast) F N (my_isList N hm) pl pu ?_ h hs ht (by rw [List.size_toArray, sizeLine_eq]; omega)
  rw [kmk_pick_nat _ e]
  simp [List.dropLast_eq_take]
end
end Mine

/- R2 -/
namespace Mine
open PySem PySem.W PyProof.Rows PySem.Calls PySem.Spec
def pltI (a b : Int × Int) : Bool := decide (a.1 < b.1) || (decide (a.1 = b.1) && decide (a.2 < b.2))
def PairAt (h : Heap) (a : Addr) (p : Int × Int) : Prop := ∃ n t u, h.get? a = some { cls := .type "tuple", data := .seq #[.int p.1 t, .int p.2 u] n }
section
variable {prog : Program} {w : World} {A : Around} {E : Value → Shared → Prop} {s : Shared} {a b : Addr} {p q : Int × Int}
theorem PairAt.typeIs (x : PairAt s.heap a p) : s.TypeIs (.ref a) "tuple" := let ⟨_, _, _, h⟩ := x; ⟨_, h, rfl⟩
theorem PairAt.key (x : PairAt s.heap a p) : IsTupleKey (intKind prog w) s.heap [p.1, p.2] a := by
  obtain ⟨n, t, u, h⟩ := x
  exact ⟨_, _, n, h, rfl, rfl, .cons (intKind_is _ _ _ _) (.cons (intKind_is _ _ _ _) .nil)⟩
theorem pair_lt_tree {P : PySem.Fin → Shared → Prop} (hx : PairAt s.heap a p) (hy : PairAt s.heap b q) (h : P (.done (.ret (.bool (pltI p q)))) s) :
    wpAny (model prog w) A (Builtin.«tuple.__lt__» ⟨[.ref a, .ref b], []⟩) P E s := by
  have hTb := hy.typeIs
  obtain ⟨na, t1, u1, hoa⟩ := hx
  obtain ⟨nb, t2, u2, hob⟩ := hy
  show wpAny _ _ (isInstance (.ref b) (.type "tuple") >>= _) _ _ s
  refine wpAny_bind (wpAny_isInstance hTb isSubtype_tuple_tuple ?_)
  simp only [Bool.not_true, Bool.false_eq_true, if_false]
  refine wpAny_bind (wpAny_tupleItemsOf hoa rfl ?_)
  refine wpAny_bind (wpAny_tupleItemsOf hob rfl ?_)
  refine wpAny_bind ?_
  simp only [List.zip_cons_cons, List.zip_nil_right, List.forIn_cons, List.forIn_nil]
  refine wpAny_bind (wpAny_bind (wpAny_eqBool_int ?_))
  by_cases e1 : p.1 = q.1
  · have e1' : (p.1 == q.1) = true := by simpa using e1
    rw [e1']
    simp only [Bool.not_true, Bool.false_eq_true, if_false]
    refine wpAny_pure ?_
    refine wpAny_bind (wpAny_bind (wpAny_eqBool_int ?_))
    by_cases e2 : p.2 = q.2
    · have e2' : (p.2 == q.2) = true := by simpa using e2
      rw [e2']
      simp only [Bool.not_true, Bool.false_eq_true, if_false]
      refine wpAny_pure (wpAny_pure (wpAny_pure ?_))
      have : pltI p q = false := by simp [pltI, e1, e2]
      rw [this] at h
      exact h
    · have e2' : (p.2 == q.2) = false := by simpa using e2
      rw [e2']
      simp only [Bool.not_false, if_true]
      refine wpAny_bind (wpAny_rule (wpAny_bind (wpAny_lt_int ?_)))
      have : pltI p q = decide (p.2 < q.2) := by simp [pltI, e1]
      rw [this] at h
      exact wpAny_bind (wpAny_pure (wpAny_pure (wpAny_pure (wpAny_pure h))))
  · have e1' : (p.1 == q.1) = false := by simpa using e1
    rw [e1']
    simp only [Bool.not_false, if_true]
    refine wpAny_bind (wpAny_rule (wpAny_bind (wpAny_lt_int ?_)))
    have : pltI p q = decide (p.1 < q.1) := by simp [pltI, e1]
    rw [this] at h
    exact wpAny_bind (wpAny_pure (wpAny_pure (wpAny_pure (wpAny_pure h))))
theorem pair_gt_tree {P : PySem.Fin → Shared → Prop} (hx : PairAt s.heap a p) (hy : PairAt s.heap b q) (h : P (.done (.ret (.bool (pltI q p)))) s) :
    wpAny (model prog w) A (Builtin.«tuple.__gt__» ⟨[.ref a, .ref b], []⟩) P E s := by
  have hTb := hy.typeIs
  obtain ⟨na, t1, u1, hoa⟩ := hx
  obtain ⟨nb, t2, u2, hob⟩ := hy
  show wpAny _ _ (isInstance (.ref b) (.type "tuple") >>= _) _ _ s
  refine wpAny_bind (wpAny_isInstance hTb isSubtype_tuple_tuple ?_)
  simp only [Bool.not_true, Bool.false_eq_true, if_false]
  refine wpAny_bind (wpAny_tupleItemsOf hoa rfl ?_)
  refine wpAny_bind (wpAny_tupleItemsOf hob rfl ?_)
  refine wpAny_bind ?_
  simp only [List.zip_cons_cons, List.zip_nil_right, List.forIn_cons, List.forIn_nil]
  refine wpAny_bind (wpAny_bind (wpAny_eqBool_int ?_))
  by_cases e1 : p.1 = q.1
  · have e1' : (p.1 == q.1) = true := by simpa using e1
    rw [e1']
    simp only [Bool.not_true, Bool.false_eq_true, if_false]
    refine wpAny_pure ?_
    refine wpAny_bind (wpAny_bind (wpAny_eqBool_int ?_))
    by_cases e2 : p.2 = q.2
    · have e2' : (p.2 == q.2) = true := by simpa using e2
      rw [e2']
      simp only [Bool.not_true, Bool.false_eq_true, if_false]
      refine wpAny_pure (wpAny_pure (wpAny_pure ?_))
      have : pltI q p = false := by simp [pltI, e1, e2]
      rw [this] at h
      exact h
    · have e2' : (p.2 == q.2) = false := by simpa using e2
      rw [e2']
      simp only [Bool.not_false, if_true]
      refine wpAny_bind (wpAny_rule (wpAny_bind (gt_int ?_)))
      have : pltI q p = decide (q.2 < p.2) := by simp [pltI, e1]
      rw [this] at h
      exact wpAny_bind (wpAny_pure (wpAny_pure (wpAny_pure (wpAny_pure h))))
  · have e1' : (p.1 == q.1) = false := by simpa using e1
    rw [e1']
    simp only [Bool.not_false, if_true]
    refine wpAny_bind (wpAny_rule (wpAny_bind (gt_int ?_)))
    have : pltI q p = decide (q.1 < p.1) := by simp [pltI, show q.1 ≠ p.1 from fun e => e1 e.symm]
    rw [this] at h
    exact wpAny_bind (wpAny_pure (wpAny_pure (wpAny_pure (wpAny_pure h))))
theorem pair_ne_tree {P : PySem.Fin → Shared → Prop} (hx : PairAt s.heap a p) (hy : PairAt s.heap b q) (h : P (.done (.ret (.bool (decide (p ≠ q))))) s) :
    wpAny (model prog w) A (Builtin.«tuple.__ne__» ⟨[.ref a, .ref b], []⟩) P E s := by
  have hTb := hy.typeIs
  obtain ⟨na, t1, u1, hoa⟩ := hx
  obtain ⟨nb, t2, u2, hob⟩ := hy
  show wpAny _ _ (isInstance (.ref b) (.type "tuple") >>= _) _ _ s
  refine wpAny_bind (wpAny_isInstance hTb isSubtype_tuple_tuple ?_)
  simp only [Bool.not_true, Bool.false_eq_true, if_false]
  refine wpAny_bind (wpAny_tupleItemsOf hoa rfl ?_)
  refine wpAny_bind (wpAny_tupleItemsOf hob rfl ?_)
  refine wpAny_bind ?_
  simp only [List.zip_cons_cons, List.zip_nil_right, List.forIn_cons, List.forIn_nil]
  refine wpAny_bind (wpAny_bind (wpAny_eqBool_int ?_))
  by_cases e1 : p.1 = q.1
  · have e1' : (p.1 == q.1) = true := by simpa using e1
    rw [e1']
    simp only [Bool.not_true, Bool.false_eq_true, if_false]
    refine wpAny_pure ?_
    refine wpAny_bind (wpAny_bind (wpAny_eqBool_int ?_))
    by_cases e2 : p.2 = q.2
    · have e2' : (p.2 == q.2) = true := by simpa using e2
      rw [e2']
      simp only [Bool.not_true, Bool.false_eq_true, if_false]
      refine wpAny_pure (wpAny_pure (wpAny_pure ?_))
      have : decide (p ≠ q) = false := by simp [Prod.ext_iff, e1, e2]
      rw [this] at h
      exact h
    · have e2' : (p.2 == q.2) = false := by simpa using e2
      rw [e2']
      simp only [Bool.not_false, if_true]
      have : decide (p ≠ q) = true := by simp [Prod.ext_iff, e2]
      rw [this] at h
      exact wpAny_bind (wpAny_pure (wpAny_pure (wpAny_pure (wpAny_pure h))))
  · have e1' : (p.1 == q.1) = false := by simpa using e1
    rw [e1']
    simp only [Bool.not_false, if_true]
    have : decide (p ≠ q) = true := by simp [Prod.ext_iff, e1]
    rw [this] at h
    exact wpAny_bind (wpAny_pure (wpAny_pure (wpAny_pure (wpAny_pure h))))
theorem pair_lt {Q : Value → Shared → Prop} (hu : A.units < cLine) (hx : PairAt s.heap a p) (hy : PairAt s.heap b q) (h : Q (.bool (pltI p q)) s) :
    wpAny (model prog w) A (richCompare .Lt (.ref a) (.ref b)) Q E s :=
  wpAny_richCompare_same_room (op := .Lt) hx.typeIs hy.typeIs F.slot_tuple_lt
    (wpAny_call_entry F.slot_tuple_lt hx.typeIs F.entry_tuple_lt (pair_lt_tree hx hy ⟨_, rfl, by simp, h⟩) (F.args_tuple_lt_2 _ _)) hu
theorem pair_gt {Q : Value → Shared → Prop} (hu : A.units < cLine) (hx : PairAt s.heap a p) (hy : PairAt s.heap b q) (h : Q (.bool (pltI q p)) s) :
    wpAny (model prog w) A (richCompare .Gt (.ref a) (.ref b)) Q E s :=
  wpAny_richCompare_same_room (op := .Gt) hx.typeIs hy.typeIs F.slot_tuple_gt
    (wpAny_call_entry F.slot_tuple_gt hx.typeIs F.entry_tuple_gt (pair_gt_tree hx hy ⟨_, rfl, by simp, h⟩) (F.args_tuple_gt_2 _ _)) hu
theorem pair_ne {Q : Value → Shared → Prop} (hu : A.units < cLine) (hx : PairAt s.heap a p) (hy : PairAt s.heap b q) (h : Q (.bool (decide (p ≠ q))) s) :
    wpAny (model prog w) A (richCompare .NotEq (.ref a) (.ref b)) Q E s :=
  wpAny_richCompare_same_room (op := .NotEq) hx.typeIs hy.typeIs F.slot_tuple_ne
    (wpAny_call_entry F.slot_tuple_ne hx.typeIs F.entry_tuple_ne (pair_ne_tree hx hy ⟨_, rfl, by simp, h⟩) (F.args_tuple_ne_2 _ _)) hu
theorem pair_eqBool {Q : Bool → Shared → Prop} (hu : A.units < cLine) (hx : PairAt s.heap a p) (hy : PairAt s.heap b q) (h : Q (decide (p = q)) s) :
    wpAny (model prog w) A (eqBool (.ref a) (.ref b)) Q E s := by
  refine wpAny_eqBool_tuple hu hx.key hy.key ?_
  have : decide ([p.1, p.2] = [q.1, q.2]) = decide (p = q) := by simp [Prod.ext_iff]
  rw [this]; exact h
end
section
variable {prog : Program} {w : World} {A : Around} {E : Value → Shared → Prop} {s : Shared} {h₀ : Heap} {L D : Addr} {m : Str → Option Value} {news nw : List (Addr × Obj)} {us ws : List Value} {ps : List Pt} {c : Nat} {v1 v2 : Value} {p q : Pt} {value slice : PySem.Expr} {k : Int} {u : Tok}
theorem PIn.at (N : News h₀ L s.heap news) (x : PIn news v1 p) : ∃ a, v1 = .ref a ∧ PairAt s.heap a p := by
  obtain ⟨a, n, t, u, rfl, hm⟩ := x
  exact ⟨a, rfl, n, t, u, (N _ hm).1⟩
theorem my_lt {Q : Value → Shared → Prop} (N : News h₀ L s.heap news) (hx : PIn news v1 p) (hy : PIn news v2 q) (hu : A.units < cLine) (h : Q (.bool (pltI p q)) s) : wpAny (model prog w) A (compareOp .Lt v1 v2) Q E s := by
  obtain ⟨a, rfl, x⟩ := hx.at N
  obtain ⟨b, rfl, y⟩ := hy.at N
  exact cmp_ofLt (pair_lt hu x y h)
theorem my_ne {Q : Value → Shared → Prop} (N : News h₀ L s.heap news) (hx : PIn news v1 p) (hy : PIn news v2 q) (hu : A.units < cLine) (h : Q (.bool (decide (p ≠ q))) s) : wpAny (model prog w) A (compareOp .NotEq v1 v2) Q E s := by
  obtain ⟨a, rfl, x⟩ := hx.at N
  obtain ⟨b, rfl, y⟩ := hy.at N
  exact cmp_ofNotEq (pair_ne hu x y h)
theorem my_item {Q : Value → Shared → Prop} (N : News h₀ L s.heap news) (hm : (D, listOf us.toArray c) ∈ news) (R : PAll nw us ps) (hb : ps.length ≤ 1000) (h0 : 0 ≤ k) (h1 : k < ps.length) (h : ∀ x, PIn nw x (ps.getD k.toNat (0, 0)) → Q x s)
    (hs : subscripted slice false (.ref D) (.int k u) = operate [.ref D, .int k u] (getItem (.ref D) (.int k u))) (hg : ∀ r, letTemporaryGo value (.ref D) r = pure ()) :
    wpAny (model prog w) A (subscriptTail value slice (.ref D) (.int k u)) Q E s := by
  have hk : k.toNat < ps.length := by omega
  obtain ⟨x, hx, hP⟩ := R.get hk
  refine my_at (j := k.toNat) N hm (by rw [R.length]; exact hb) (.inl (by omega)) hx (h x ?_) hs hg
  rw [List.getD_eq_getElem?_getD, List.getElem?_eq_getElem hk]
  exact hP
theorem my_itemN {Q : Value → Shared → Prop} (N : News h₀ L s.heap news) (hm : (D, listOf us.toArray c) ∈ news) (R : PAll nw us ps) (hb : ps.length ≤ 1000) (h0 : k < 0) (h1 : 0 ≤ k + ps.length) (h : ∀ x, PIn nw x (ps.getD (k + ps.length).toNat (0, 0)) → Q x s)
    (hs : subscripted slice false (.ref D) (.int k u) = operate [.ref D, .int k u] (getItem (.ref D) (.int k u))) (hg : ∀ r, letTemporaryGo value (.ref D) r = pure ()) :
    wpAny (model prog w) A (subscriptTail value slice (.ref D) (.int k u)) Q E s := by
  have hk : (k + ps.length).toNat < ps.length := by omega
  obtain ⟨x, hx, hP⟩ := R.get hk
  refine my_at (j := (k + ps.length).toNat) N hm (by rw [R.length]; exact hb) (.inr ⟨h0, by rw [R.length]; omega⟩) hx (h x ?_) hs hg
  rw [List.getD_eq_getElem?_getD, List.getElem?_eq_getElem hk]
  exact hP
def atI (ps : List Pt) (k : Int) : Pt := ps.getD (if k < 0 then k + ps.length else k).toNat (0, 0)
theorem atI_mem {ps : List Pt} {k : Int} (h0 : -(ps.length : Int) ≤ k) (h1 : k < ps.length) : atI ps k ∈ ps := by
  have hk : (if k < 0 then k + ps.length else k).toNat < ps.length := by split <;> omega
  rw [atI, List.getD_eq_getElem?_getD, List.getElem?_eq_getElem hk, Option.getD_some]
  exact List.getElem_mem hk
theorem bd_at {ps : List Pt} {k : Int} (bd : ∀ p ∈ ps, Bd p) (h0 : -(ps.length : Int) ≤ k) (h1 : k < ps.length) : Bd (atI ps k) := bd _ (atI_mem h0 h1)
theorem my_itemA {Q : Value → Shared → Prop} (N : News h₀ L s.heap news) (hm : (D, listOf us.toArray c) ∈ news) (R : PAll nw us ps) (hb : ps.length ≤ 1000) (h0 : -(ps.length : Int) ≤ k) (h1 : k < ps.length) (h : ∀ x, PIn nw x (atI ps k) → Q x s)
    (hs : subscripted slice false (.ref D) (.int k u) = operate [.ref D, .int k u] (getItem (.ref D) (.int k u))) (hg : ∀ r, letTemporaryGo value (.ref D) r = pure ()) :
    wpAny (model prog w) A (subscriptTail value slice (.ref D) (.int k u)) Q E s := by
  by_cases hk : k < 0
  · exact my_itemN N hm R hb hk (by omega) (fun x hx => h x (by rw [atI, if_pos hk]; exact hx)) hs hg
  · exact my_item N hm R hb (by omega) h1 (fun x hx => h x (by rw [atI, if_neg hk]; exact hx)) hs hg
theorem my_lenP {Q : Value → Shared → Prop} (N : News h₀ L s.heap news) (hm : (D, listOf us.toArray c) ∈ news) (R : PAll nw us ps) (hb : ps.length ≤ 1000)
    (h : ∀ t tk, Q (.int (ps.length : Int) t) { s with toks := tk }) : wpAny (model prog w) A (call (.builtin "len") [.ref D]) Q E s :=
  my_len N hm (by rw [R.length]) (by omega) h
theorem my_add {D₂ c₂ : Nat} {Q : Value → Shared → Prop} (F : Fr h₀ L s.heap m) (N : News h₀ L s.heap news) (hm : (D, listOf us.toArray c) ∈ news) (hm2 : (D₂, listOf ws.toArray c₂) ∈ news) (hb : us.length ≤ 1000) (hb2 : ws.length ≤ 1000)
    (h : ∀ D' h', Fr h₀ L h' m → News h₀ L h' ((D', listOf (us ++ ws).toArray 0) :: news) → (∀ p ∈ news, p.1 < D') → Q (.ref D') { s with heap := h' }) :
    wpAny (model prog w) A (binaryOp .Add (.ref D) (.ref D₂)) Q E s :=
  add_arrays F N (my_isList N hm) (my_isList N hm2) (fun h' F' N' => h _ h' F' N' fun p hp => Heap.lt_size (N p hp).1) (by rw [List.size_toArray, List.size_toArray, sizeLine_eq]; omega)
theorem my_rev {vk : Value} {ops : List Value} {Q : Value → Shared → Prop} (F : Fr h₀ L s.heap m) (N : News h₀ L s.heap news) (hm : (D, listOf us.toArray c) ∈ news) (pk : IsPart vk (some (-1))) (hb : us.length ≤ 1000)
    (h : ∀ D' h', Fr h₀ L h' m → News h₀ L h' ((D', listOf us.reverse.toArray 0) :: news) → (∀ p ∈ news, p.1 < D') → Q (.ref D') { s with heap := h' })
    (hs : subscripted slice false (.ref D) (.ref s.heap.objs.size) = operate ops (getItem (.ref D) (.ref s.heap.objs.size))) (ht : ∀ r, letTemporaryGo value (.ref D) r = pure ()) :
    wpAny (model prog w) A (subscriptTail value slice (.ref D) (.ref s.heap.objs.size)) Q E { s with heap := s.heap.push { cls := .type "slice", data := .fields #[.none, .none, vk] } } :=
  krv_lit (zs := us.reverse) F N (my_isList N hm) pk rfl h hs ht (by rw [List.size_toArray, sizeLine_eq]; omega)
theorem my_from {vl vu : Value} {j : Nat} {Q : Value → Shared → Prop} (F : Fr h₀ L s.heap m) (N : News h₀ L s.heap news) (hm : (D, listOf us.toArray c) ∈ news) (pl : IsPart vl (some (j : Int))) (pu : IsPart vu none) (hb : us.length ≤ 1000)
    (h : ∀ D' h', Fr h₀ L h' m → News h₀ L h' ((D', listOf (us.drop j).toArray 0) :: news) → (∀ p ∈ news, p.1 < D') → Q (.ref D') { s with heap := h' })
    (hs : subscripted slice false (.ref D) (.ref s.heap.objs.size) = operate [.ref s.heap.objs.size, .ref D] (getItem (.ref D) (.ref s.heap.objs.size))) (ht : ∀ r, letTemporaryGo value (.ref D) r = pure ()) :
    wpAny (model prog w) A (subscriptTail value slice (.ref D) (.ref s.heap.objs.size)) Q E { s with heap := s.heap.push { cls := .type "slice", data := .fields #[vl, vu, .none] } } := by
  have e : sliceBounds (some (j : Int)) none none us.toArray.size = (((min j us.toArray.size : Nat) : Int), ((us.toArray.size : Nat) : Int), 1) := by
    simp only [sliceBounds, Option.getD_none, show (1 : Int) > 0 by decide, if_true, if_neg (show ¬ ((j : Int) < 0) by omega)]
    congr 1
    omega
  refine kmk_slice_lit (zs := us.drop j) F N (my_isList N hm) pl pu ?_ h hs ht (by rw [List.size_toArray, sizeLine_eq]; omega)
  rw [kmk_pick_nat _ e]
  show (us.drop (min j us.toArray.size)).take (us.toArray.size - min j us.toArray.size) = _
  rw [List.size_toArray, kmk_drop_min, List.take_of_length_le (by rw [List.length_drop]; omega)]
theorem my_addP {D₂ c₂ : Nat} {qs : List Pt} {Q : Value → Shared → Prop} (F : Fr h₀ L s.heap m) (N : News h₀ L s.heap news) (hm : (D, listOf us.toArray c) ∈ news) (hm2 : (D₂, listOf ws.toArray c₂) ∈ news) (R1 : PAll nw us ps) (R2 : PAll nw ws qs) (hb : ps.length ≤ 1000) (hb2 : qs.length ≤ 1000)
    (h : ∀ D' us' h', Fr h₀ L h' m → News h₀ L h' ((D', listOf us'.toArray 0) :: news) → (∀ p ∈ news, p.1 < D') → PAll nw us' (ps ++ qs) → Q (.ref D') { s with heap := h' }) :
    wpAny (model prog w) A (binaryOp .Add (.ref D) (.ref D₂)) Q E s :=
  my_add F N hm hm2 (by rw [R1.length]; exact hb) (by rw [R2.length]; exact hb2) fun D' h' F' N' l1 => h D' _ h' F' N' l1 (R1.append R2)
end
section
variable {prog : Program} {w : World} {A : Around} {E : Value → Shared → Prop} {s : Shared} {env : Env} {h₀ : Heap} {x : Str} {body : List Stmt} {Q : Flow → Shared → Prop}
theorem my_range_iter {r : Addr} {t₀ u₀ v₀ : Tok} {n : Nat} {m₀ : Str → Option Value} {news : List (Addr × Obj)} (J : Nat → (Str → Option Value) → List (Addr × Obj) → Prop)
    (hh : A.handled = none) (hr : IsRange s.heap r 0 (n : Int) 1 t₀ u₀ v₀) (hn : n ≤ 1000) (F : Fr h₀ env.locals s.heap m₀) (N : News h₀ env.locals s.heap news) (hj : J 0 m₀ news)
    (turn : ∀ i t m₁ nx h tk own, i < n → OwnOff own (nx.map (·.1)) → J i m₁ nx → Fr h₀ env.locals h (fun y => if y = x then some (.int (i : Int) t) else m₁ y) → News h₀ env.locals h (nx ++ own) →
      wpAny (model prog w) A (execs body env) (InvPostG h₀ env.locals (J (i + 1)) own { s with heap := h, toks := tk } Q) E { s with heap := h, toks := tk })
    (done : ∀ m₁ nx h tk, J n m₁ nx → Fr h₀ env.locals h m₁ → News h₀ env.locals h nx → Q .next { s with heap := h, toks := tk }) :
    wpAny (model prog w) A (pyIter (.ref r)) (fun it s₂ => LoopAtV prog w A h₀ env x body Q E it s₂) E s := by
  have hsmall : Builtin.Range.small 0 (n : Int) 1 = true := small_one (by decide) (by decide) (by omega) (by omega)
  have hsz : Builtin.Range.rangeSize 0 (n : Int) 1 = (n : Int) := by
    unfold Builtin.Range.rangeSize
    rw [if_pos (by decide)]
    split <;> omega
  refine wpAny_pyIter_range hr hsmall ?_
  have W : Walks prog w A s.heap.objs.size [s.heap.objs.size] [s.heap.objs.size] n (fun i v => i < n ∧ ∃ t, v = .int (0 + (i : Int) * 1) t)
      (fun i h => IsRangeIter h s.heap.objs.size (0 + (i : Nat) * 1) ((n : Int) - (i : Nat)) 1) := (Walks.range hh _ 0 1 n).bound
  refine kdr_loop J W (fun _ h => h) (fun _ h => h) ?_ ?_ ?_ ?_ (by show IsRangeIter _ _ _ _ _; rw [hsz]; simpa using Heap.get?_push_size _ rfl) (F.push _) (fun p hp => ⟨Heap.get?_push_of_some _ (N p hp).1, (N p hp).2⟩) hj ?_ done
  · intro i h hi b hb
    rw [List.mem_singleton.mp hb]
    exact ⟨_, hi⟩
  · intro hm
    exact absurd F.ns.lt ((List.mem_singleton.mp hm) ▸ Nat.lt_irrefl _)
  · intro b hb
    rw [List.mem_singleton.mp hb]
    exact next_is_new F
  · intro p hp hI
    exact absurd (Heap.lt_size (N p hp).1) ((List.mem_singleton.mp hI) ▸ Nat.lt_irrefl _)
  · rintro i v m₁ nx h tk own hi ⟨_, t, rfl⟩ hoff hJ F₁ N₁
    have e1 : (0 : Int) + (i : Int) * 1 = (i : Int) := by omega
    rw [e1] at F₁
    exact turn i t m₁ nx h tk own hi hoff hJ F₁ N₁
theorem inv_end {L : Addr} {J : (Str → Option Value) → List (Addr × Obj) → Prop} {m' : Str → Option Value} {new nx own led : List (Addr × Obj)} {s₁ : Shared} {h' : Heap} {tk : Nat} (F : Fr h₀ L h' m') (N : News h₀ L h' led)
    (hnew : ∀ p ∈ new, ∀ q ∈ own, q.1 < p.1) (hoff : OwnOff own (nx.map (·.1))) (hj : J m' (new ++ nx)) (hs : ∀ p ∈ new ++ (nx ++ own), p ∈ led) : InvEndG h₀ L J own s₁ { s₁ with heap := h', toks := tk } := by
  refine InvEndG.intro (nx := new ++ nx) F N hj ?_ (fun p hp => hs p ?_) (fun p hp => hs p (List.mem_append_right _ (List.mem_append_right _ hp)))
  · intro p hp b hb
    obtain ⟨q, hq, rfl⟩ := List.mem_map.mp hb
    rcases List.mem_append.mp hq with hq | hq
    · exact Nat.ne_of_lt (hnew q hq p hp)
    · exact hoff p hp _ (List.mem_map.mpr ⟨q, hq, rfl⟩)
  · rcases List.mem_append.mp hp with hp | hp
    · exact List.mem_append_left _ hp
    · exact List.mem_append_right _ (List.mem_append_left _ hp)
end
end Mine

/- R3 -/
namespace Mine
open PySem PySem.W PyProof.Rows PySem.Calls PySem.Spec
section
variable {prog : Program} {w : World} {A : Around} {E : Value → Shared → Prop} {R : Result → Shared → Prop} {s : Shared} {elt target iter : PySem.Expr} {ifs : List PySem.Expr} {gens : List Comprehension} {scope : Scope} {pos : Pos} {it acc : Value} {env : Env} {depth : Nat}
abbrev En (prog : Program) (w : World) (A : Around) (env : Env) (R : Result → Shared → Prop) : Value → Shared → Prop := notedBy (model prog w) A env fun e s' => R (.error e) s'
abbrev testsOf (ifs : List PySem.Expr) (env : Env) : Sem Bool := forIn ifs true fun c r => if r = true then do let ok ← isTrue c env (eval c env); pure (ForInStep.yield ok) else pure (ForInStep.yield r)
theorem compTurn_last (hg : gens[depth]? = some ⟨target, iter, ifs, 0⟩) (hn : gens[depth + 1]? = none) :
    compTurn (.ListComp elt gens scope pos) depth it acc env = (do
      standAt iter.pos
      match ← pyNext it with
      | none => pure (.done .next)
      | some v =>
        letOwnedTupleGo target it v
        assign target env v
        let mut ok := true
        for c in ifs do
          if ok then ok ← isTrue c env (eval c env)
        if ok then
          (do let _ ← call (.builtin "list.append") [acc, ← eval elt env])
        again (.compLoop (.ListComp elt gens scope pos) depth it acc env)) := by
  unfold compTurn
  simp only [hg, hn]
  rfl
theorem compTurn_next {target' iter' : PySem.Expr} {ifs' : List PySem.Expr} (hg : gens[depth]? = some ⟨target, iter, ifs, 0⟩) (hn : gens[depth + 1]? = some ⟨target', iter', ifs', 0⟩) :
    compTurn (.ListComp elt gens scope pos) depth it acc env = (do
      standAt iter.pos
      match ← pyNext it with
      | none => pure (.done .next)
      | some v =>
        letOwnedTupleGo target it v
        assign target env v
        let mut ok := true
        for c in ifs do
          if ok then ok ← isTrue c env (eval c env)
        if ok then
          let x ← eval iter' env
          standAt iter'.pos
          let x ← foldedSetIterable iter' env x
          let _ ← runOwn (.compStart (.ListComp elt gens scope pos) (depth + 1) (← holding [x] (pyIter x)) acc env) env
          again (.compLoop (.ListComp elt gens scope pos) depth it acc env)
        else
          again (.compLoop (.ListComp elt gens scope pos) depth it acc env)) := by
  unfold compTurn
  simp only [hg, hn]
  rfl
theorem comp_loop_last (hg : gens[depth]? = some ⟨target, iter, ifs, 0⟩) (hn : gens[depth + 1]? = none) (Inv : Nat → Shared → Prop)
    (turn : ∀ n s, Inv n s → wpAny (model prog w) A (pyNext it) (fun r s₁ => match r with
      | none => R (.ok .next) s₁
      | some v => wpAny (model prog w) A (letOwnedTupleGo target it v) (fun _ s₁' => wpAny (model prog w) A (assign target env v) (fun _ s₂ =>
          wpAny (model prog w) A (testsOf ifs env) (fun ok s₃ =>
            if ok = true then wpAny (model prog w) A (eval elt env) (fun x s₄ =>
              wpAny (model prog w) A (call (.builtin "list.append") [acc, x]) (fun _ s₅ => ∃ m, m < n ∧ Inv m s₅) (En prog w A env R) s₄) (En prog w A env R) s₃
            else ∃ m, m < n ∧ Inv m s₃) (En prog w A env R) s₂) (En prog w A env R) s₁') (En prog w A env R) s₁) (En prog w A env R) s)
    (n : Nat) (h : Inv n s) :
    codeAny (model prog w) A (.compLoop (.ListComp elt gens scope pos) depth it acc env) R s := by
  refine codeAny_loop rfl Inv (fun n s hI => ?_) n h
  show wpAny _ A ((compTurn (.ListComp elt gens scope pos) depth it acc env).onRaise (fun x => do noteFrame x env; theTreesLotGoes x)) _ _ s
  refine wpAny_noted ?_
  rw [compTurn_last hg hn]
  refine wpAny_bind (wpAny_standAt (wpAny_bind (wpAny_mono (turn n s hI) (fun r s₁ h₁ => ?_) fun _ _ h' => h')))
  cases r with
  | none => exact wpAny_pure h₁
  | some v =>
    refine wpAny_bind (wpAny_mono h₁ (fun _ s₁' h₁' => ?_) fun _ _ h' => h')
    refine wpAny_bind (wpAny_mono h₁' (fun _ s₂ h₂ => wpAny_bind (wpAny_mono h₂ (fun ok s₃ h₃ => ?_) fun _ _ h' => h')) fun _ _ h' => h')
    cases ok with
    | false => exact wpAny_pure ⟨rfl, h₃⟩
    | true =>
      exact wpAny_bind (wpAny_bind (wpAny_mono h₃ (fun x s₄ h₄ => wpAny_bind (wpAny_mono h₄ (fun _ s₅ h₅ => wpAny_pure (wpAny_pure ⟨rfl, h₅⟩)) fun _ _ h' => h')) fun _ _ h' => h'))
theorem comp_loop_next {target' iter' : PySem.Expr} {ifs' : List PySem.Expr} (hg : gens[depth]? = some ⟨target, iter, ifs, 0⟩) (hn : gens[depth + 1]? = some ⟨target', iter', ifs', 0⟩) (hs : ∀ x, foldedSetIterable iter' env x = pure x) (Inv : Nat → Shared → Prop)
    (turn : ∀ n s, Inv n s → wpAny (model prog w) A (pyNext it) (fun r s₁ => match r with
      | none => R (.ok .next) s₁
      | some v => wpAny (model prog w) A (letOwnedTupleGo target it v) (fun _ s₁' => wpAny (model prog w) A (assign target env v) (fun _ s₂ =>
          wpAny (model prog w) A (testsOf ifs env) (fun ok s₃ =>
            if ok = true then wpAny (model prog w) A (eval iter' env) (fun x s₄ => wpAny (model prog w) A (pyIter x) (fun it' s₅ =>
              codeAny (model prog w) A (.compStart (.ListComp elt gens scope pos) (depth + 1) it' acc env) (fun r s₆ => match r with | .ok _ => ∃ m, m < n ∧ Inv m s₆ | .error _ => False) s₅) (En prog w A env R) s₄) (En prog w A env R) s₃
            else ∃ m, m < n ∧ Inv m s₃) (En prog w A env R) s₂) (En prog w A env R) s₁') (En prog w A env R) s₁) (En prog w A env R) s)
    (n : Nat) (h : Inv n s) :
    codeAny (model prog w) A (.compLoop (.ListComp elt gens scope pos) depth it acc env) R s := by
  refine codeAny_loop rfl Inv (fun n s hI => ?_) n h
  show wpAny _ A ((compTurn (.ListComp elt gens scope pos) depth it acc env).onRaise (fun x => do noteFrame x env; theTreesLotGoes x)) _ _ s
  refine wpAny_noted ?_
  rw [compTurn_next hg hn]
  refine wpAny_bind (wpAny_standAt (wpAny_bind (wpAny_mono (turn n s hI) (fun r s₁ h₁ => ?_) fun _ _ h' => h')))
  cases r with
  | none => exact wpAny_pure h₁
  | some v =>
    refine wpAny_bind (wpAny_mono h₁ (fun _ s₁' h₁' => ?_) fun _ _ h' => h')
    refine wpAny_bind (wpAny_mono h₁' (fun _ s₂ h₂ => wpAny_bind (wpAny_mono h₂ (fun ok s₃ h₃ => ?_) fun _ _ h' => h')) fun _ _ h' => h')
    cases ok with
    | false => exact wpAny_pure ⟨rfl, h₃⟩
    | true =>
      refine wpAny_bind (wpAny_mono h₃ (fun x s₄ h₄ => wpAny_bind (wpAny_standAt (wpAny_bind (wpAny_of_eq (hs x) (wpAny_bind (wpAny_holding (wpAny_mono h₄ (fun it' s₅ h₅ => wpAny_bind (wpAny_runOwn (codeAny_mono h₅ fun r s₆ h₆ => ?_))) fun _ _ h' => h'))))))) fun _ _ h' => h')
      cases r with
      | ok f => exact wpAny_pure ⟨rfl, h₆⟩
      | error e => exact h₆.elim
theorem comp_start (hg : gens[depth]? = some ⟨target, iter, ifs, 0⟩)
    (h0 : codeAny (model prog w) A (.compLoop (.ListComp elt gens scope pos) depth it acc env) R s)
    (h : wpAny (model prog w) A (pyIter it) (fun it' s' => codeAny (model prog w) A (.compLoop (.ListComp elt gens scope pos) depth it' acc env) R s') (En prog w A env R) s) :
    codeAny (model prog w) A (.compStart (.ListComp elt gens scope pos) depth it acc env) R s := by
  refine codeAny_of_tree ?_
  show wpAny _ _ ((compStart (.ListComp elt gens scope pos) depth it acc env).onRaise (fun x => do noteFrame x env; standAt theWindowsPlace)) _ _ s
  refine wpAny_notedAt ?_
  unfold compStart
  simp only [clausesOf, hg]
  show wpAny _ _ (ask >>= _) _ _ s
  refine wpAny_bind (wpAny_askSetting (wpAny_ite ?_))
  split
  · first
      | exact wpAny_bind (wpAny_pure (wpAny_pure (And.intro rfl h0)))
      | exact wpAny_pure (And.intro rfl h0)
  · first
      | exact wpAny_bind (wpAny_rule (wpAny_bind (wpAny_standAt (wpAny_bind (wpAny_mono h (fun it' s' h' => wpAny_pure (And.intro rfl h')) fun _ _ x => x)))))
      | (refine wpAny_bind (wpAny_rule ?_); show wpAny _ _ (standAt iter.pos >>= _) _ _ s; exact wpAny_bind (wpAny_standAt (wpAny_bind (wpAny_mono h (fun it' s' h' => wpAny_pure (And.intro rfl h')) fun _ _ x => x))))
end
end Mine

/- R4 -/
namespace Mine
open PySem PySem.W PyProof.Rows PySem.Calls PySem.Spec
open PyProof.Rows.LCg (NsObj lst ns_obj lst_snoc fr_but news_but SrcAt range_walks list_st range_st)
/-- within a comprehension's block: the frame without, the block's names m₂, what it has gathered -/
def CS (h₀ : Heap) (L C D : Addr) (m m₂ : Str → Option Value) (ys : List Value) (led : List (Addr × Obj)) (h : Heap) : Prop :=
  Fr h₀ L h m ∧ ∃ oC, NsObj oC m₂ ∧ News h₀ L h ((C, oC) :: (D, lst ys) :: led) ∧ (∀ p ∈ led, p.1 ≠ C ∧ p.1 ≠ D) ∧ C ≠ D
def CEnd (h₀ : Heap) (L C D : Addr) (m : Str → Option Value) (I : Addr) (oI : Obj) (J : (Str → Option Value) → List Value → List (Addr × Obj) → Prop) (s s' : Shared) : Prop :=
  ∃ h' tk' m₂ ys led, s' = { s with heap := h', toks := tk' } ∧ CS h₀ L C D m m₂ ys ((I, oI) :: led) h' ∧ (∀ p ∈ led, p.1 ≠ I) ∧ J m₂ ys led
/-- an iterator's walk, as a level asks it -/
structure Lev (prog : Program) (w : World) (A : Around) (h₀ : Heap) (L I : Addr) (fp : List Addr) (n : Nat) (P : Nat → Value → Prop) (St : Nat → Heap → Prop) (S : List (Addr × Obj) → Prop) : Prop where
  W : Walks prog w A I fp [I] n P St
  io : ∀ i h, St i h → ∃ o, h.get? I = some o
  st : ∀ i h h' o nw, St i h → h.get? I = some o → h'.get? I = some o → (∀ b o, h₀.get? b = some o → h'.get? b = some o) → News h₀ L h' nw → S nw → St i h'
  new : h₀.get? I = none
  ne : L ≠ I
section
variable {prog : Program} {w : World} {A : Around} {E : Value → Shared → Prop} {R : Result → Shared → Prop} {s : Shared} {elt iter : PySem.Expr} {ifs : List PySem.Expr} {gens : List Comprehension} {scope : Scope} {pos : Pos} {env : Env} {depth : Nat}
  {h₀ : Heap} {L I C D : Addr} {fp : List Addr} {n : Nat} {P : Nat → Value → Prop} {St : Nat → Heap → Prop} {S : List (Addr × Obj) → Prop} {m m₂ : Str → Option Value} {ys : List Value} {led : List (Addr × Obj)} {cl : List (Str × Addr)} {x : Str} {px : Pos}
theorem CS.step (hI : ∀ p ∈ led, p.1 ≠ I) (hCI : C ≠ I) (hDI : D ≠ I) (hLI : L ≠ I) (hI0 : h₀.get? I = none) {h h' : Heap} (c : CS h₀ L C D m m₂ ys led h) (hk : ∀ b o, b ∉ [I] → h.get? b = some o → h'.get? b = some o) : CS h₀ L C D m m₂ ys led h' := by
  obtain ⟨F, oC, hn, N, off, ne⟩ := c
  refine ⟨fr_but F hk hLI hI0, oC, hn, news_but N hk fun p hp => ?_, off, ne⟩
  rcases List.mem_cons.mp hp with rfl | hp
  · exact hCI
  · rcases List.mem_cons.mp hp with rfl | hp
    · exact hDI
    · exact hI p hp
theorem CS.store {h h' : Heap} {v : Value} (c : CS h₀ L C D m m₂ ys led h) (hn : h'.Ns C (fun y => if y = x then some v else m₂ y)) (hs : Heap.SameBut C h h') : CS h₀ L C D m (fun y => if y = x then some v else m₂ y) ys led h' := by
  obtain ⟨F, oC, hC, N, off, ne⟩ := c
  have hc := N (C, oC) (.head _)
  obtain ⟨oC', e, hC'⟩ := ns_obj hn
  refine ⟨F.change hs hc.2.1 hc.2.2, oC', hC', fun p hp => ?_, off, ne⟩
  rcases List.mem_cons.mp hp with rfl | hp
  · exact ⟨e, hc.2⟩
  · have hne : p.1 ≠ C := by
      rcases List.mem_cons.mp hp with rfl | hp
      · exact ne.symm
      · exact (off p hp).1
    exact ⟨hs.extBut _ _ hne (N p (.tail _ hp)).1, (N p (.tail _ hp)).2⟩
theorem CS.ns {h : Heap} (c : CS h₀ L C D m m₂ ys led h) : h.Ns C m₂ := by
  obtain ⟨F, oC, hC, N, off, ne⟩ := c
  exact hC.ns (N (C, oC) (.head _)).1
theorem CS.append {v : Value} {Q : Value → Shared → Prop} (c : CS h₀ L C D m m₂ ys led s.heap) (hb : ys.length ≤ 100000) (h : ∀ h', CS h₀ L C D m m₂ (ys ++ [v]) led h' → Q .none { s with heap := h' }) :
    wpAny (model prog w) A (call (.builtin "list.append") [.ref D, v]) Q E s := by
  obtain ⟨F, oC, hC, N, off, ne⟩ := c
  have hd := N (D, lst ys) (.tail _ (.head _))
  refine append_at (hsz := by show ys.toArray.size ≤ sizeLine; rw [List.size_toArray, sizeLine_eq]; omega) hd.1 fun h' hs ho => h h' ⟨F.change hs hd.2.1 hd.2.2, oC, hC, fun p hp => ?_, off, ne⟩
  rcases List.mem_cons.mp hp with rfl | hp
  · exact ⟨hs.extBut _ _ ne (N _ (.head _)).1, (N _ (.head _)).2⟩
  · rcases List.mem_cons.mp hp with rfl | hp
    · exact ⟨ho.trans (congrArg some (lst_snoc ys v)), hd.2⟩
    · have z := N p (.tail _ (.tail _ hp))
      exact ⟨hs.extBut _ _ (off p hp).2 z.1, z.2⟩
/-- the iterator enters the ledger -/
theorem CS.withI {h : Heap} {oI : Obj} (c : CS h₀ L C D m m₂ ys led h) (e : h.get? I = some oI) (hCI : C ≠ I) (hDI : D ≠ I) (hLI : L ≠ I) (hI0 : h₀.get? I = none) : CS h₀ L C D m m₂ ys ((I, oI) :: led) h := by
  obtain ⟨F, oC, hC, N, off, ne⟩ := c
  refine ⟨F, oC, hC, fun p hp => ?_, fun p hp => ?_, ne⟩
  · rcases List.mem_cons.mp hp with rfl | hp
    · exact N _ (.head _)
    · rcases List.mem_cons.mp hp with rfl | hp
      · exact N _ (.tail _ (.head _))
      · rcases List.mem_cons.mp hp with rfl | hp
        · exact ⟨e, hLI.symm, hI0⟩
        · exact N _ (.tail _ (.tail _ hp))
  · rcases List.mem_cons.mp hp with rfl | hp
    · exact ⟨hCI.symm, hDI.symm⟩
    · exact off p hp
theorem CS.outI {h : Heap} {oI : Obj} (c : CS h₀ L C D m m₂ ys ((I, oI) :: led) h) : CS h₀ L C D m m₂ ys led h := by
  obtain ⟨F, oC, hC, N, off, ne⟩ := c
  refine ⟨F, oC, hC, fun p hp => N p ?_, fun p hp => off p (.tail _ hp), ne⟩
  rcases List.mem_cons.mp hp with rfl | hp
  · exact .head _
  · rcases List.mem_cons.mp hp with rfl | hp
    · exact .tail _ (.head _)
    · exact .tail _ (.tail _ (.tail _ hp))
theorem CS.news {h : Heap} (c : CS h₀ L C D m m₂ ys led h) : News h₀ L h led := by
  obtain ⟨F, oC, hC, N, off, ne⟩ := c
  exact fun p hp => N p (.tail _ (.tail _ hp))

theorem level_last (hg : gens[depth]? = some ⟨.Name x px, iter, ifs, 0⟩) (hn : gens[depth + 1]? = none) (hx : scope.names.lookup x = some .local) (hkind : scope.kind = .function)
    (V : Lev prog w A h₀ L I fp n P St S) (hCI : C ≠ I) (hDI : D ≠ I) (hCf : C ∉ fp) (hDf : D ∉ fp)
    (J : Nat → (Str → Option Value) → List Value → List (Addr × Obj) → Prop) (hS : ∀ i m₂ ys led, J i m₂ ys led → S led ∧ ys.length ≤ 100000)
    (hst : St 0 s.heap) (h0 : CS h₀ L C D m m₂ ys led s.heap) (off : ∀ p ∈ led, p.1 ≠ I) (hJ : J 0 m₂ ys led)
    (turn : ∀ i v m₂ ys led h tk oI (E' : Value → Shared → Prop), i < n → P i v → J i m₂ ys led → (∀ p ∈ led, p.1 ≠ I) → CS h₀ L C D m (fun y => if y = x then some v else m₂ y) ys ((I, oI) :: led) h →
      wpAny (model prog w) A (testsOf ifs (compEnvC scope cl C env)) (fun ok s' =>
        if ok = true then wpAny (model prog w) A (eval elt (compEnvC scope cl C env)) (fun y s'' => CEnd h₀ L C D m I oI (fun m' ys' led' => J (i + 1) m' (ys' ++ [y]) led' ∧ S led' ∧ ys'.length ≤ 100000) { s with heap := h, toks := tk } s'') E' s'
        else CEnd h₀ L C D m I oI (J (i + 1)) { s with heap := h, toks := tk } s') E' { s with heap := h, toks := tk })
    (done : ∀ m₂ ys led h tk, J n m₂ ys led → CS h₀ L C D m m₂ ys led h → (∀ p ∈ led, p.1 ≠ I) → R (.ok .next) { s with heap := h, toks := tk }) :
    codeAny (model prog w) A (.compLoop (.ListComp elt gens scope pos) depth (.ref I) (.ref D) (compEnvC scope cl C env)) R s := by
  refine comp_loop_last hg hn (fun k s' => ∃ h' tk i m₂ ys led, s' = { s with heap := h', toks := tk } ∧ i ≤ n ∧ k = n + 1 - i ∧ St i h' ∧ CS h₀ L C D m m₂ ys led h' ∧ (∀ p ∈ led, p.1 ≠ I) ∧ J i m₂ ys led) ?_ (n + 1)
    ⟨s.heap, s.toks, 0, m₂, ys, led, rfl, Nat.zero_le _, rfl, hst, h0, off, hJ⟩
  rintro k s' ⟨h', tk, i, m₃, ys₃, led₃, rfl, hi, rfl, hst', c, off', hJ'⟩
  by_cases hlt : i < n
  · refine V.W.item i _ _ _ hlt hst' fun v h₂ tk₂ hPv hst₂ hk₂ => ?_
    refine wpAny_of_eq (a := ()) (by rfl) ?_
    have c₂ := c.step off' hCI hDI V.ne V.new hk₂
    refine wpAny_assign_Name (wpAny_storeName_local (lookup_relabel_local hx) c₂.ns (fun h₃ hn₃ hs₃ => ?_) (by simp [compEnvC, relabel, hkind]))
    have hst₃ : St (i + 1) h₃ := V.W.frame _ _ _ hst₂ fun b hb o e => hs₃.extBut b o (fun q => hCf (by have q' : b = C := q; rw [← q']; exact hb)) e
    obtain ⟨oI, heI⟩ := V.io _ _ hst₃
    have c₃ := (c₂.store hn₃ hs₃).withI heI hCI hDI V.ne V.new
    refine wpAny_mono (turn i v m₃ ys₃ led₃ h₃ _ oI _ hlt hPv hJ' off' c₃) (fun ok s₄ h₄ => ?_) fun _ _ e => e
    cases ok with
    | true =>
      simp only [if_true] at h₄ ⊢
      refine wpAny_mono h₄ (fun y s₅ h₅ => ?_) fun _ _ e => e
      obtain ⟨h₅, tk₅, m₅, ys₅, led₅, rfl, c₅, off₅, hJ₅, hS₅, hb₅⟩ := h₅
      have zI := (c₅.news (I, oI) (.head _)).1
      have hst₅ : St (i + 1) h₅ := V.st _ _ _ _ _ hst₃ heI zI c₅.1.keep (c₅.outI).news hS₅
      refine c₅.append (s := { s with heap := h₅, toks := tk₅ }) hb₅ fun h₆ c₆ => ?_
      have zI6 := (c₆.news (I, oI) (.head _)).1
      exact ⟨n + 1 - (i + 1), by omega, h₆, tk₅, i + 1, m₅, ys₅ ++ [y], led₅, rfl, hlt, rfl, V.st _ _ _ _ _ hst₅ zI zI6 c₆.1.keep (c₆.outI).news hS₅, c₆.outI, off₅, hJ₅⟩
    | false =>
      simp only [Bool.false_eq_true, if_false] at h₄ ⊢
      obtain ⟨h₅, tk₅, m₅, ys₅, led₅, rfl, c₅, off₅, hJ₅⟩ := h₄
      have zI := (c₅.news (I, oI) (.head _)).1
      exact ⟨n + 1 - (i + 1), by omega, h₅, tk₅, i + 1, m₅, ys₅, led₅, rfl, hlt, rfl, V.st _ _ _ _ _ hst₃ heI zI c₅.1.keep (c₅.outI).news (hS _ _ _ _ hJ₅).1, c₅.outI, off₅, hJ₅⟩
  · obtain rfl : i = n := Nat.le_antisymm hi (Nat.not_lt.mp hlt)
    refine V.W.done _ _ _ hst' fun h₂ tk₂ hk₂ => ?_
    exact done _ _ _ _ _ hJ' (c.step off' hCI hDI V.ne V.new hk₂) off'

theorem level_next {target' iter' : PySem.Expr} {ifs' : List PySem.Expr} (hg : gens[depth]? = some ⟨.Name x px, iter, ifs, 0⟩) (hn : gens[depth + 1]? = some ⟨target', iter', ifs', 0⟩) (hs : ∀ x, foldedSetIterable iter' (compEnvC scope cl C env) x = pure x)
    (hx : scope.names.lookup x = some .local) (hkind : scope.kind = .function)
    (V : Lev prog w A h₀ L I fp n P St S) (hCI : C ≠ I) (hDI : D ≠ I) (hCf : C ∉ fp)
    (J : Nat → (Str → Option Value) → List Value → List (Addr × Obj) → Prop) (hS : ∀ i m₂ ys led, J i m₂ ys led → S led)
    (hst : St 0 s.heap) (h0 : CS h₀ L C D m m₂ ys led s.heap) (off : ∀ p ∈ led, p.1 ≠ I) (hJ : J 0 m₂ ys led)
    (turn : ∀ i v m₂ ys led h tk oI (E' : Value → Shared → Prop), i < n → P i v → J i m₂ ys led → (∀ p ∈ led, p.1 ≠ I) → CS h₀ L C D m (fun y => if y = x then some v else m₂ y) ys ((I, oI) :: led) h →
      wpAny (model prog w) A (testsOf ifs (compEnvC scope cl C env)) (fun ok s' =>
        if ok = true then wpAny (model prog w) A (eval iter' (compEnvC scope cl C env)) (fun xv s'' => wpAny (model prog w) A (pyIter xv) (fun it' s₃ =>
          codeAny (model prog w) A (.compStart (.ListComp elt gens scope pos) (depth + 1) it' (.ref D) (compEnvC scope cl C env)) (fun r s₄ => match r with
            | .ok _ => CEnd h₀ L C D m I oI (J (i + 1)) { s with heap := h, toks := tk } s₄
            | .error _ => False) s₃) E' s'') E' s'
        else CEnd h₀ L C D m I oI (J (i + 1)) { s with heap := h, toks := tk } s') E' { s with heap := h, toks := tk })
    (done : ∀ m₂ ys led h tk, J n m₂ ys led → CS h₀ L C D m m₂ ys led h → (∀ p ∈ led, p.1 ≠ I) → R (.ok .next) { s with heap := h, toks := tk }) :
    codeAny (model prog w) A (.compLoop (.ListComp elt gens scope pos) depth (.ref I) (.ref D) (compEnvC scope cl C env)) R s := by
  refine comp_loop_next hg hn hs (fun k s' => ∃ h' tk i m₂ ys led, s' = { s with heap := h', toks := tk } ∧ i ≤ n ∧ k = n + 1 - i ∧ St i h' ∧ CS h₀ L C D m m₂ ys led h' ∧ (∀ p ∈ led, p.1 ≠ I) ∧ J i m₂ ys led) ?_ (n + 1)
    ⟨s.heap, s.toks, 0, m₂, ys, led, rfl, Nat.zero_le _, rfl, hst, h0, off, hJ⟩
  rintro k s' ⟨h', tk, i, m₃, ys₃, led₃, rfl, hi, rfl, hst', c, off', hJ'⟩
  by_cases hlt : i < n
  · refine V.W.item i _ _ _ hlt hst' fun v h₂ tk₂ hPv hst₂ hk₂ => ?_
    refine wpAny_of_eq (a := ()) (by rfl) ?_
    have c₂ := c.step off' hCI hDI V.ne V.new hk₂
    refine wpAny_assign_Name (wpAny_storeName_local (lookup_relabel_local hx) c₂.ns (fun h₃ hn₃ hs₃ => ?_) (by simp [compEnvC, relabel, hkind]))
    have hst₃ : St (i + 1) h₃ := V.W.frame _ _ _ hst₂ fun b hb o e => hs₃.extBut b o (fun q => hCf (by have q' : b = C := q; rw [← q']; exact hb)) e
    obtain ⟨oI, heI⟩ := V.io _ _ hst₃
    have c₃ := (c₂.store hn₃ hs₃).withI heI hCI hDI V.ne V.new
    have fin : ∀ s₄, CEnd h₀ L C D m I oI (J (i + 1)) { { s with heap := h₂, toks := tk₂ } with heap := h₃, toks := tk₂ + 1 } s₄ →
        ∃ k', k' < n + 1 - i ∧ ∃ h' tk i m₂ ys led, s₄ = { s with heap := h', toks := tk } ∧ i ≤ n ∧ k' = n + 1 - i ∧ St i h' ∧ CS h₀ L C D m m₂ ys led h' ∧ (∀ p ∈ led, p.1 ≠ I) ∧ J i m₂ ys led := by
      rintro s₄ ⟨h₅, tk₅, m₅, ys₅, led₅, rfl, c₅, off₅, hJ₅⟩
      have zI := (c₅.news (I, oI) (.head _)).1
      exact ⟨n + 1 - (i + 1), by omega, h₅, tk₅, i + 1, m₅, ys₅, led₅, rfl, hlt, rfl, V.st _ _ _ _ _ hst₃ heI zI c₅.1.keep (c₅.outI).news (hS _ _ _ _ hJ₅), c₅.outI, off₅, hJ₅⟩
    refine wpAny_mono (turn i v m₃ ys₃ led₃ h₃ _ oI _ hlt hPv hJ' off' c₃) (fun ok s₄ h₄ => ?_) fun _ _ e => e
    cases ok with
    | true =>
      simp only [if_true] at h₄ ⊢
      refine wpAny_mono h₄ (fun xv s₅ h₅ => wpAny_mono h₅ (fun it' s₆ h₆ => codeAny_mono h₆ fun r s₇ h₇ => ?_) fun _ _ e => e) fun _ _ e => e
      cases r with
      | ok f => exact fin _ h₇
      | error e => exact h₇.elim
    | false =>
      simp only [Bool.false_eq_true, if_false] at h₄ ⊢
      exact fin _ h₄
  · obtain rfl : i = n := Nat.le_antisymm hi (Nat.not_lt.mp hlt)
    refine V.W.done _ _ _ hst' fun h₂ tk₂ hk₂ => ?_
    exact done _ _ _ _ _ hJ' (c.step off' hCI hDI V.ne V.new hk₂) off'
end
end Mine

/- R5 -/
namespace Mine
open PySem PySem.W PyProof.Rows PySem.Calls PySem.Spec
open PyProof.Rows.LCg (NsObj lst ns_obj lst_snoc fr_but news_but SrcAt range_walks list_st range_st)
section
variable {prog : Program} {w : World} {A : Around} {E : Value → Shared → Prop} {R : Result → Shared → Prop} {s : Shared} {elt target iter : PySem.Expr} {ifs : List PySem.Expr} {gens : List Comprehension} {scope : Scope} {pos : Pos} {env : Env} {depth : Nat}
  {h₀ : Heap} {L I C D : Addr} {fp : List Addr} {n : Nat} {P : Nat → Value → Prop} {St : Nat → Heap → Prop} {S : List (Addr × Obj) → Prop} {m m₂ : Str → Option Value} {ys : List Value} {led news : List (Addr × Obj)} {cl : List (Str × Addr)} {x : Str} {px : Pos}
theorem CS.keeps {h h' : Heap} (c : CS h₀ L C D m m₂ ys led h) (k : ∀ b o, h.get? b = some o → h'.get? b = some o) : CS h₀ L C D m m₂ ys led h' := by
  obtain ⟨F, oC, hn, N, off, ne⟩ := c
  exact ⟨F.keeps k, oC, hn, N.grown k, off, ne⟩
theorem CS.ltC {h : Heap} (c : CS h₀ L C D m m₂ ys led h) : C < h.objs.size := by
  obtain ⟨F, oC, hn, N, off, ne⟩ := c
  exact Heap.lt_size (N _ (.head _)).1
theorem CS.ltD {h : Heap} (c : CS h₀ L C D m m₂ ys led h) : D < h.objs.size := by
  obtain ⟨F, oC, hn, N, off, ne⟩ := c
  exact Heap.lt_size (N _ (.tail _ (.head _))).1
theorem CS.lt {h : Heap} (c : CS h₀ L C D m m₂ ys led h) : ∀ p ∈ led, p.1 < h.objs.size := fun p hp => Heap.lt_size (c.news p hp).1
theorem start_of (hg : gens[depth]? = some ⟨target, iter, ifs, 0⟩) (W : Walks prog w A I fp [I] n P St) (hst : St 0 s.heap)
    (h : codeAny (model prog w) A (.compLoop (.ListComp elt gens scope pos) depth (.ref I) (.ref D) (compEnvC scope cl C env)) R s) :
    codeAny (model prog w) A (.compStart (.ListComp elt gens scope pos) depth (.ref I) (.ref D) (compEnvC scope cl C env)) R s :=
  comp_start hg h (W.self 0 _ _ _ hst h)
/-- a range as a source, at any level -/
theorem iter_range {r : Addr} {b : Nat} {t u v : Tok} {Q : Value → Shared → Prop} (hh : A.handled = none) (F : Fr h₀ L s.heap m) (hr : IsRange s.heap r 0 (b : Int) 1 t u v) (hb : b ≤ 1000)
    (h : ∀ I h', Lev prog w A h₀ L I [I] b (fun i v => ∃ t, v = .int (0 + (i : Int)) t) (fun i h => IsRangeIter h I (0 + (i : Nat) * 1) ((b : Int) - (i : Nat)) 1) (fun _ => True) → IsRangeIter h' I (0 + (0 : Nat) * 1) ((b : Int) - (0 : Nat)) 1 →
      (∀ b o, s.heap.get? b = some o → h'.get? b = some o) → (∀ b, b < s.heap.objs.size → b ≠ I) → I < h'.objs.size → Q (.ref I) { s with heap := h' }) :
    wpAny (model prog w) A (pyIter (.ref r)) Q E s := by
  have hsmall : Builtin.Range.small 0 (b : Int) 1 = true := small_one (by decide) (by decide) (by omega) (by omega)
  have hsz : Builtin.Range.rangeSize 0 (b : Int) 1 = (b : Int) := by
    unfold Builtin.Range.rangeSize
    rw [if_pos (by decide)]
    split <;> omega
  refine wpAny_pyIter_range hr hsmall ?_
  refine h s.heap.objs.size _ ⟨range_walks hh 0 b, fun i h st => ⟨_, st⟩, range_st, next_is_new F, Nat.ne_of_lt F.ns.lt⟩ ?_ (fun _ _ e => Heap.get?_push_of_some _ e) (fun b hb => Nat.ne_of_lt hb) (by rw [Heap.size_push]; exact Nat.lt_succ_self _)
  show IsRangeIter _ _ _ _ _
  rw [hsz]
  simpa using Heap.get?_push_size _ rfl
/-- a list of the ledger as a source -/
theorem iter_list {ax : Addr} {vs : List Value} {k : Nat} {Q : Value → Shared → Prop} (hh : A.handled = none) (F : Fr h₀ L s.heap m) (N : News h₀ L s.heap led) (hm : (ax, listOf vs.toArray k) ∈ led)
    (h : ∀ I h', Lev prog w A h₀ L I [I, ax] vs.toArray.size (fun i v => vs.toArray[i]? = some v) (fun i h => h.IsListIter I ax i ∧ h.IsList ax vs.toArray) (SrcAt h₀ ax vs.toArray) → (h'.IsListIter I ax 0 ∧ h'.IsList ax vs.toArray) →
      (∀ b o, s.heap.get? b = some o → h'.get? b = some o) → (∀ b, b < s.heap.objs.size → b ≠ I) → I < h'.objs.size → Q (.ref I) { s with heap := h' }) :
    wpAny (model prog w) A (pyIter (.ref ax)) Q E s := by
  have hl := my_isList N hm
  have hlt : ax < s.heap.objs.size := Heap.lt_size (N _ hm).1
  refine wpAny_pyIter_list hl ?_
  refine h s.heap.objs.size _ ⟨Walks.list hh s.heap.objs.size ax (Nat.ne_of_lt hlt) vs.toArray, fun i h st => by obtain ⟨o, e, _⟩ := st.1; exact ⟨o, e⟩, list_st, next_is_new F, Nat.ne_of_lt F.ns.lt⟩ ⟨⟨_, Heap.get?_push_size _ rfl, rfl, rfl⟩, hl.push _⟩
    (fun _ _ e => Heap.get?_push_of_some _ e) (fun b hb => Nat.ne_of_lt hb) (by rw [Heap.size_push]; exact Nat.lt_succ_self _)

/-- what a comprehension's block leaves -/
def TopEnd (h₀ : Heap) (L C D : Addr) (m : Str → Option Value) (s : Shared) (K : Nat → List Value → List (Addr × Obj) → Prop) (r : Result) (s' : Shared) : Prop :=
  match r with
  | .ok _ => ∃ h' tk' m₂ ys led, s' = { s with heap := h', toks := tk' } ∧ CS h₀ L C D m m₂ ys led h' ∧ K tk' ys led
  | .error _ => False
/-- the block's ground -/
theorem comp_ground {iter : PySem.Expr} {gs : List Comprehension} {RR : Value → Addr → Result → Shared → Prop} (hcell : ∀ y ∈ scope.names, y.2 ≠ .cell) (hkind : scope.kind = .function) (F : Fr h₀ L s.heap m) (N : News h₀ L s.heap news)
    (h : ∀ C D h₃ tk₃, (∀ b o, s.heap.get? b = some o → h₃.get? b = some o) → s.heap.objs.size ≤ C → s.heap.objs.size ≤ D → CS h₀ L C D m (fun x => ([] : List (Str × Value)).reverse.lookup x) [] news h₃ →
      codeAny (model prog w) A (.compStart (.ListComp elt (⟨target, iter, ifs, 0⟩ :: gs) scope pos) 0 (.ref I) (.ref D) (compEnvC scope cl C env)) (RR (.ref D) C) { s with heap := h₃, toks := tk₃ }) :
    wpAny (model prog w) A (newList []) (fun acc s₃ => wpAny (model prog w) A (newFunctionEnv scope env.globals cl [] env.qual none .none (some env)) (fun cenv s₄ =>
      codeAny (model prog w) A (.compStart (.ListComp elt (⟨target, iter, ifs, 0⟩ :: gs) scope pos) 0 (.ref I) acc { cenv with scope := relabel scope env }) (RR acc cenv.locals) s₄) E s₃) E s := by
  refine wpAny_newObj_type (wpAny_newFunctionEnv hcell (by intro y hy; simp at hy) (fun h₁ hns₁ hsb₁ => ?_) hkind)
  dsimp only at hns₁ hsb₁ ⊢
  generalize hH2 : s.heap.push { cls := .type "list", dict := none, data := .seq ([] : List Value).toArray } = H2 at hns₁ hsb₁ ⊢
  have hC : H2.objs.size = s.heap.objs.size + 1 := by rw [← hH2, Heap.size_push]
  have hDC : s.heap.objs.size ≠ H2.objs.size := by rw [hC]; exact Nat.ne_of_lt (Nat.lt_succ_self _)
  have old : ∀ b o, s.heap.get? b = some o → h₁.get? b = some o := fun b o e =>
    hsb₁.extBut b o (by rw [hC]; exact Nat.ne_of_lt (Nat.lt_succ_of_lt (Heap.lt_size e))) (Heap.get?_push_of_some _ (hH2 ▸ Heap.get?_push_of_some _ e))
  have hacc : h₁.get? s.heap.objs.size = some (lst []) := hsb₁.extBut _ _ hDC (Heap.get?_push_of_some _ (hH2 ▸ Heap.get?_push_size _ rfl))
  obtain ⟨oC, heC, hoC⟩ := ns_obj hns₁
  have fresh₀ : ∀ a, s.heap.objs.size ≤ a → h₀.get? a = none := fun a ha => by
    cases e : h₀.get? a with
    | none => rfl
    | some o' => exact absurd (Heap.lt_size (F.keep a o' e)) (Nat.not_lt.mpr ha)
  have hLlt : L < s.heap.objs.size := F.ns.lt
  refine h H2.objs.size s.heap.objs.size h₁ _ old (by rw [hC]; exact Nat.le_succ _) (Nat.le_refl _) ⟨F.keeps old, oC, hoC, fun p hp => ?_, fun p hp => ?_, Ne.symm hDC⟩
  · rcases List.mem_cons.mp hp with rfl | hp
    · exact ⟨heC, by show H2.objs.size ≠ L; rw [hC]; exact Nat.ne_of_gt (Nat.lt_succ_of_lt hLlt), fresh₀ _ (by rw [hC]; exact Nat.le_succ _)⟩
    · rcases List.mem_cons.mp hp with rfl | hp
      · exact ⟨hacc, Nat.ne_of_gt hLlt, fresh₀ _ (Nat.le_refl _)⟩
      · exact ⟨old _ _ (N p hp).1, (N p hp).2⟩
  · have hlt := Heap.lt_size (N p hp).1
    exact ⟨by rw [hC]; exact Nat.ne_of_lt (Nat.lt_succ_of_lt hlt), Nat.ne_of_lt hlt⟩
theorem CS.letGo {h h' : Heap} (c : CS h₀ L C D m m₂ ys led h) (hs : Heap.SameBut C h h') : Fr h₀ L h' m ∧ News h₀ L h' ((D, lst ys) :: led) ∧ ∀ p ∈ led, p.1 ≠ D := by
  obtain ⟨F, oC, hn, N, off, ne⟩ := c
  have z := N (C, oC) (.head _)
  refine ⟨F.change hs z.2.1 z.2.2, fun p hp => ?_, fun p hp => (off p hp).2⟩
  have hne : p.1 ≠ C := by
    rcases List.mem_cons.mp hp with rfl | hp
    · exact ne.symm
    · exact (off p hp).1
  exact ⟨hs.extBut _ _ hne (N p (.tail _ hp)).1, (N p (.tail _ hp)).2⟩
/-- a comprehension as a value -/
theorem comp_eval {iter : PySem.Expr} {gs : List Comprehension} {Q : Value → Shared → Prop} (hs : ∀ x, foldedSetIterable iter env x = pure x) (hclos : closureFor scope env = pure cl) (hcell : ∀ y ∈ scope.names, y.2 ≠ .cell) (hkind : scope.kind = .function)
    (hnames : ∀ y ∈ scope.names, y.2 = .local → scope.names.lookup y.1 = some .local)
    (h : wpAny (model prog w) A (eval iter env) (fun xv s₁ => wpAny (model prog w) A (pyIter xv) (fun it s₂ => ∃ I m news, it = .ref I ∧ Fr h₀ L s₂.heap m ∧ News h₀ L s₂.heap news ∧
      ∀ C D h₃ tk₃, (∀ b o, s₂.heap.get? b = some o → h₃.get? b = some o) → s₂.heap.objs.size ≤ C → s₂.heap.objs.size ≤ D → CS h₀ L C D m (fun x => ([] : List (Str × Value)).reverse.lookup x) [] news h₃ →
        codeAny (model prog w) A (.compStart (.ListComp elt (⟨target, iter, ifs, 0⟩ :: gs) scope pos) 0 (.ref I) (.ref D) (compEnvC scope cl C env))
          (TopEnd h₀ L C D m s₂ fun tk ys led => ∀ h'', Fr h₀ L h'' m → News h₀ L h'' ((D, lst ys) :: led) → (∀ p ∈ led, p.1 ≠ D) → Q (.ref D) { s₂ with heap := h'', toks := tk }) { s₂ with heap := h₃, toks := tk₃ }) E s₁) E s) :
    wpAny (model prog w) A (eval (.ListComp elt (⟨target, iter, ifs, 0⟩ :: gs) scope pos) env) Q E s := by
  rw [eval_ListComp]
  refine wpAny_comprehension_free (use := none) rfl hs hclos hkind hnames (wpAny_mono h (fun xv s₁ h₁ => wpAny_mono h₁ (fun it s₂ h₂ => ?_) fun _ _ e => e) fun _ _ e => e)
  obtain ⟨I, m, news, rfl, F, N, k⟩ := h₂
  refine comp_ground hcell hkind F N fun C D h₃ tk₃ a1 a2 a3 c => codeAny_mono (k C D h₃ tk₃ a1 a2 a3 c) fun r s' hr => ?_
  cases r with
  | error e => exact hr.elim
  | ok f =>
    obtain ⟨h', tk', m₂, ys, led, rfl, c', K⟩ := hr
    refine ⟨m₂, c'.ns, fun h'' hs'' => ?_⟩
    obtain ⟨F', N', o'⟩ := c'.letGo hs''
    exact K h'' F' N' o'
/-- a comprehension whose value a plain name takes at once -/
theorem comp_assign {iter : PySem.Expr} {gs : List Comprehension} {y : Str} {py spos : Pos} {Q : Flow → Shared → Prop} (hLe : env.locals = L)
    (hsw : swapsWith (.ListComp elt (⟨target, iter, ifs, 0⟩ :: gs) scope pos) (some (.Name y py)) spos.line env = pure true)
    (hs : ∀ x, foldedSetIterable iter env x = pure x) (hclos : closureFor scope env = pure cl) (hcell : ∀ y ∈ scope.names, y.2 ≠ .cell) (hkind : scope.kind = .function)
    (hnames : ∀ y ∈ scope.names, y.2 = .local → scope.names.lookup y.1 = some .local)
    (hy : env.kindOf y = some .local) (hp : (env.scope.kind == .class || (env.scope.kind == .module && env.locals != env.globals)) = false)
    (h : wpAny (model prog w) A (eval iter env) (fun xv s₁ => wpAny (model prog w) A (pyIter xv) (fun it s₂ => ∃ I m news, it = .ref I ∧ Fr h₀ L s₂.heap m ∧ News h₀ L s₂.heap news ∧
      ∀ C D h₃ tk₃, (∀ b o, s₂.heap.get? b = some o → h₃.get? b = some o) → s₂.heap.objs.size ≤ C → s₂.heap.objs.size ≤ D → CS h₀ L C D m (fun x => ([] : List (Str × Value)).reverse.lookup x) [] news h₃ →
        codeAny (model prog w) A (.compStart (.ListComp elt (⟨target, iter, ifs, 0⟩ :: gs) scope pos) 0 (.ref I) (.ref D) (compEnvC scope cl C env))
          (TopEnd h₀ L C D m s₂ fun _ ys led => ∀ h'' tk'', Fr h₀ L h'' (fun z => if z = y then some (.ref D) else m z) → News h₀ L h'' ((D, lst ys) :: led) → (∀ p ∈ led, p.1 ≠ D) → Q .next { s₂ with heap := h'', toks := tk'' }) { s₂ with heap := h₃, toks := tk₃ }) E s₁) E s) :
    wpAny (model prog w) A (exec (.Assign [.Name y py] (.ListComp elt (⟨target, iter, ifs, 0⟩ :: gs) scope pos) spos) env) Q E s := by
  subst hLe
  rw [exec_Assign_Name_used _ _ _ _ hsw]
  refine wpAny_bind (wpAny_standAt (wpAny_bind ?_))
  show wpAny _ A (do let _ ← comprehension (.ListComp elt (⟨target, iter, ifs, 0⟩ :: gs) scope pos) scope env _ (newList []) false (eval iter env) (some (assign (.Name y py) env))) _ _ s
  refine wpAny_bind (wpAny_mono (wpAny_comprehension_free (use := some (assign (.Name y py) env)) (Q := fun _ s' => Q .next s') rfl hs hclos hkind hnames
    (wpAny_mono h (fun xv s₁ h₁ => wpAny_mono h₁ (fun it s₂ h₂ => ?_) fun _ _ e => e) fun _ _ e => e)) (fun _ s' hq => wpAny_pure (wpAny_pure hq)) fun _ _ e => e)
  obtain ⟨I, m, news, rfl, F, N, k⟩ := h₂
  refine comp_ground hcell hkind F N fun C D h₃ tk₃ a1 a2 a3 c => codeAny_mono (k C D h₃ tk₃ a1 a2 a3 c) fun r s' hr => ?_
  cases r with
  | error e => exact hr.elim
  | ok f =>
    obtain ⟨h', tk', m₂, ys, led, rfl, c', K⟩ := hr
    show wpAny _ A (assign (.Name y py) env (.ref D)) _ _ _
    have hL₀ : h₀.get? env.locals = none := Heap.get?_none_of_le c'.1.above
    refine wpAny_assign_Name (wpAny_storeName_local hy c'.1.ns (fun h₂ hn₂ hs₂ => ?_) hp)
    have c2 : CS h₀ env.locals C D (fun z => if z = y then some (.ref D) else m z) m₂ ys led h₂ := by
      obtain ⟨F', oC, hn, N', off, ne⟩ := c'
      refine ⟨⟨hn₂, fun b o e => hs₂.extBut b o (fun q => by rw [q, hL₀] at e; cases e) (F'.keep b o e), F'.above⟩, oC, hn, fun p hp => ⟨hs₂.extBut _ _ (N' p hp).2.1 (N' p hp).1, (N' p hp).2⟩, off, ne⟩
    refine ⟨m₂, c2.ns, fun h'' hs'' => ?_⟩
    obtain ⟨F', N', o'⟩ := c2.letGo hs''
    exact K h'' _ F' N' o'
end
end Mine

/- R6 -/
namespace Mine
open PySem PySem.W PyProof.Rows PySem.Calls PySem.Spec
section
variable {prog : Program} {w : World} {A : Around} {E : Value → Shared → Prop} {s : Shared} {h₀ : Heap} {L D D₂ : Addr} {m : Str → Option Value} {news nw nw2 : List (Addr × Obj)} {us ws : List Value} {ps qs : List Pt} {c c₂ : Nat} {v v1 v2 : Value} {p q : Pt} {Q : Value → Shared → Prop}
theorem pd_inj {p q : Pt} (h : pd p = pd q) : p = q := by
  obtain ⟨a, b⟩ := p
  obtain ⟨c, d⟩ := q
  simp only [pd, Dat.tuple.injEq, List.cons.injEq, Dat.int.injEq, and_true] at h
  rw [h.1, h.2]
theorem pd_mem {p : Pt} {ps : List Pt} : pd p ∈ ps.map pd ↔ p ∈ ps := by
  constructor
  · intro h
    obtain ⟨q, hq, e⟩ := List.mem_map.mp h
    exact pd_inj e ▸ hq
  · exact fun h => List.mem_map.mpr ⟨p, h, rfl⟩
theorem pd_map_inj : ∀ {ps qs : List Pt}, ps.map pd = qs.map pd → ps = qs
  | [], [], _ => rfl
  | [], _ :: _, h => nomatch h
  | _ :: _, [], h => nomatch h
  | a :: ps, b :: qs, h => by
    simp only [List.map_cons, List.cons.injEq] at h
    have e1 : a = b := pd_inj (by simpa only [pd, Dat.tuple.injEq, List.cons.injEq, Dat.int.injEq, and_true] using h.1)
    rw [e1, pd_map_inj h.2]
theorem pd_ok (p : Pt) : kqdOk 8 (pd p) = true := by simp [kqdOk]
theorem pds_ok (ps : List Pt) : ∀ d ∈ ps.map pd, kqdOk 8 d = true := fun d hd => by
  obtain ⟨q, _, rfl⟩ := List.mem_map.mp hd
  exact pd_ok q
theorem my_in (N : News h₀ L s.heap news) (hm : (D, listOf us.toArray c) ∈ news) (R : PAll nw us ps) (hs : ∀ q ∈ nw, q ∈ news) (Rv : PIn nw2 v p) (hs2 : ∀ q ∈ nw2, q ∈ news) (hu : A.units + 64 < cLine) (h : Q (.bool (decide (p ∈ ps))) s) :
    wpAny (model prog w) A (compareOp .In v (.ref D)) Q E s := by
  refine kqd_isIn N hm rfl rfl R.dat hs Rv.dat hs2 (pds_ok _) (pd_ok _) hu ?_
  have e : ∀ (i : Decidable (pd p ∈ ps.map pd)), @decide _ i = decide (p ∈ ps) := by
    intro _; exact decide_eq_decide.mpr pd_mem
  rw [e _]; exact h
theorem my_notIn (N : News h₀ L s.heap news) (hm : (D, listOf us.toArray c) ∈ news) (R : PAll nw us ps) (hs : ∀ q ∈ nw, q ∈ news) (Rv : PIn nw2 v p) (hs2 : ∀ q ∈ nw2, q ∈ news) (hu : A.units + 64 < cLine) (h : Q (.bool (decide (p ∉ ps))) s) :
    wpAny (model prog w) A (compareOp .NotIn v (.ref D)) Q E s := by
  refine kqd_notIn N hm rfl rfl R.dat hs Rv.dat hs2 (pds_ok _) (pd_ok _) hu ?_
  have e : ∀ (i : Decidable (pd p ∈ ps.map pd)), (!@decide _ i) = decide (p ∉ ps) := by
    intro _
    rw [Bool.eq_iff_iff]
    simp only [Bool.not_eq_true', decide_eq_false_iff_not, decide_eq_true_eq]
    exact not_congr pd_mem
  rw [e _]; exact h
theorem my_eqL (N : News h₀ L s.heap news) (hm : (D, listOf us.toArray c) ∈ news) (R : PAll nw us ps) (hs : ∀ q ∈ nw, q ∈ news) (hm2 : (D₂, listOf ws.toArray c₂) ∈ news) (R2 : PAll nw2 ws qs) (hs2 : ∀ q ∈ nw2, q ∈ news) (hu : A.units + 64 < cLine) (h : Q (.bool (decide (ps = qs))) s) :
    wpAny (model prog w) A (compareOp .Eq (.ref D) (.ref D₂)) Q E s := by
  refine kqd_eq N hm rfl rfl R.dat hs hm2 rfl rfl R2.dat hs2 (pds_ok _) (pds_ok _) hu ?_
  have e : ∀ (i : Decidable (ps.map pd = qs.map pd)), @decide _ i = decide (ps = qs) := by
    intro _; exact decide_eq_decide.mpr ⟨pd_map_inj, fun e => e ▸ rfl⟩
  rw [e _]; exact h
theorem my_neL (N : News h₀ L s.heap news) (hm : (D, listOf us.toArray c) ∈ news) (R : PAll nw us ps) (hs : ∀ q ∈ nw, q ∈ news) (hm2 : (D₂, listOf ws.toArray c₂) ∈ news) (R2 : PAll nw2 ws qs) (hs2 : ∀ q ∈ nw2, q ∈ news) (hu : A.units + 64 < cLine) (h : Q (.bool (decide (ps ≠ qs))) s) :
    wpAny (model prog w) A (compareOp .NotEq (.ref D) (.ref D₂)) Q E s := by
  refine kqd_ne N hm rfl rfl R.dat hs hm2 rfl rfl R2.dat hs2 (pds_ok _) (pds_ok _) hu ?_
  have e : ∀ (i : Decidable (ps.map pd = qs.map pd)), (!@decide _ i) = decide (ps ≠ qs) := by
    intro _
    rw [Bool.eq_iff_iff]
    simp only [Bool.not_eq_true', decide_eq_false_iff_not, decide_eq_true_eq]
    exact not_congr ⟨pd_map_inj, fun e => e ▸ rfl⟩
  rw [e _]; exact h
theorem ints_dat : ∀ {vs : List Value} {ns : List Int}, IntsAre vs ns → DatAll news vs (ns.map Dat.int)
  | _, _, .nil => .nil
  | _, _, .cons _ _ h => .cons (.int _ _) (ints_dat h)
/-- a list of ints against the empty list -/
theorem my_eqNil {ns : List Int} (N : News h₀ L s.heap news) (hm : (D, listOf us.toArray c) ∈ news) (R : IntsAre us ns) (hm2 : (D₂, listOf #[] c₂) ∈ news) (hu : A.units + 64 < cLine) (h : Q (.bool (decide (ns = []))) s) :
    wpAny (model prog w) A (compareOp .Eq (.ref D) (.ref D₂)) Q E s := by
  refine kqd_eq (ys := []) N hm rfl rfl (ints_dat (news := news) R) (fun _ h => h) hm2 rfl rfl (DatAll.nil (news := news)) (fun _ h => h) (fun d hd => ?_) (fun d hd => nomatch hd) hu ?_
  · obtain ⟨n, _, rfl⟩ := List.mem_map.mp hd
    rfl
  · have e : ∀ (i : Decidable (ns.map Dat.int = [])), @decide _ i = decide (ns = []) := by
      intro _; exact decide_eq_decide.mpr List.map_eq_nil_iff
    rw [e _]; exact h
end
end Mine

/- C1 -/
namespace Mine
open PySem PySem.W PyProof.Rows PySem.Calls PySem.Spec
local macro_rules | `(tactic| walk_at $s:str) => `(tactic| k_extra $s)
theorem reset_C1 {prog : Program} {w : World} {A : Around} {env : Env} {Q : Flow → Shared → Prop} {E : Value → Shared → Prop} {s : Shared} (h : Q .next s) : wpAny (model prog w) A (execs [] env) Q E s := by
  k_with_none
  w_top off
  walk1
  exact h
theorem turn_ok {w : World} {loose : List Str} {mean : ExcName → Option Value} {mg mb : Str → Option Value} {dp un : Nat} {gd : Option (List Code)} {cn : Str} {cs : Scope} {a : Addr} {ccd : Value} {cl : List (Str × Addr)} {outer : List Env} {A₀ : Around} {base h₀ : Heap} {L : Addr} {m : Str → Option Value} {news : List (Addr × Obj)} {s : Shared} {v1 v2 v3 : Value} {p1 p2 p3 : Pt}
    {Q E : Value → Shared → Prop}
    (B : Below A₀ base outer h₀) (F : Fr h₀ L s.heap m) (X : (hd.heap_39 w.params).In h₀) (N : News h₀ L s.heap news) (T : Top hd.view_39 loose mean mg mb h₀) (hk : cs.kind = .function)
    (hdp : dp + 1 < recursionLimit) (hun : un + 100 < cLine)
    (R1 : PIn news v1 p1) (R2 : PIn news v2 p2) (R3 : PIn news v3 p3) (b1 : Bd p1) (b2 : Bd p2) (b3 : Bd p3)
    (hret : ∀ h' tk' t, Fr h₀ L h' m → News h₀ L h' news → Q (.int (turn p1 p2 p3) t) { s with heap := h', toks := tk' }) :
    wpAny (model PySem.Challenge.rw_zz0003_01.row.prog w) (ktrTop dp un gd cn cs L a ccd cl outer) (call (.ref 53) [v1, v2, v3]) Q E s := by
  revert X; k_fill; intro X
  obtain ⟨x1, y1⟩ := p1
  obtain ⟨x2, y2⟩ := p2
  obtain ⟨x3, y3⟩ := p3
  obtain ⟨b11, b12, b13, b14⟩ := b1
  obtain ⟨b21, b22, b23, b24⟩ := b2
  obtain ⟨b31, b32, b33, b34⟩ := b3
  dsimp only at b11 b12 b13 b14 b21 b22 b23 b24 b31 b32 b33 b34
  obtain ⟨a1, n1, t1, u1, rfl, m1⟩ := R1
  obtain ⟨a2, n2, t2, u2, rfl, m2⟩ := R2
  obtain ⟨a3, n3, t3, u3, rfl, m3⟩ := R3
  refine wpAny_call ?_
  k_dflt ktr_enter
  k_steps
  exact hret _ _ _ (by assumption) (by assumption)
end Mine

/- C2 -/
namespace Mine
open PySem PySem.W PyProof.Rows PySem.Calls PySem.Spec
local macro_rules | `(tactic| walk_at $s:str) => `(tactic| k_extra $s)
theorem reset_C2 {prog : Program} {w : World} {A : Around} {env : Env} {Q : Flow → Shared → Prop} {E : Value → Shared → Prop} {s : Shared} (h : Q .next s) : wpAny (model prog w) A (execs [] env) Q E s := by
  k_with_none
  w_top off
  walk1
  exact h
/-- the stack, top first -/
def pop (p : Pt) : List Pt → List Pt
  | b :: a :: t => if turn a b p ≤ 0 then pop p (a :: t) else b :: a :: t
  | s => s
def push (st : List Pt) (p : Pt) : List Pt := p :: pop p st
def half (ps : List Pt) : List Pt := ((ps.foldl push []).tail).reverse

theorem fr_known {m : Str → Option Value} {k : Str} {v : Value} (h : m k = some v) : m = fun y => if y = k then some v else m y := by
  funext y
  split
  · rename_i e; rw [e, h]
  · rfl
section
variable {h₀ h : Heap} {L : Addr} {m : Str → Option Value} {k k1 k2 k3 : Str} {v v1 v2 v3 : Value}
theorem fr_known1 (F : Fr h₀ L h m) (e : m k = some v) : ∃ m' : Str → Option Value, Fr h₀ L h (fun y => if y = k then some v else m' y) :=
  ⟨m, fr_known e ▸ F⟩
theorem fr_known2 (F : Fr h₀ L h m) (e1 : m k1 = some v1) (e2 : m k2 = some v2) : ∃ m' : Str → Option Value, Fr h₀ L h (fun y => if y = k1 then some v1 else if y = k2 then some v2 else m' y) := by
  refine ⟨m, ?_⟩
  have e : m = fun y => if y = k1 then some v1 else if y = k2 then some v2 else m y := by
    funext y
    split
    · rename_i e; rw [e, e1]
    · split
      · rename_i e; rw [e, e2]
      · rfl
  rw [e] at F
  exact F
theorem fr_known3 (F : Fr h₀ L h m) (e1 : m k1 = some v1) (e2 : m k2 = some v2) (e3 : m k3 = some v3) : ∃ m' : Str → Option Value, Fr h₀ L h (fun y => if y = k1 then some v1 else if y = k2 then some v2 else if y = k3 then some v3 else m' y) := by
  refine ⟨m, ?_⟩
  have e : m = fun y => if y = k1 then some v1 else if y = k2 then some v2 else if y = k3 then some v3 else m y := by
    funext y
    split
    · rename_i e; rw [e, e1]
    · split
      · rename_i e; rw [e, e2]
      · split
        · rename_i e; rw [e, e3]
        · rfl
  rw [e] at F
  exact F
theorem fr_known4 {k4 : Str} {v4 : Value} (F : Fr h₀ L h m) (e1 : m k1 = some v1) (e2 : m k2 = some v2) (e3 : m k3 = some v3) (e4 : m k4 = some v4) : ∃ m' : Str → Option Value, Fr h₀ L h (fun y => if y = k1 then some v1 else if y = k2 then some v2 else if y = k3 then some v3 else if y = k4 then some v4 else m' y) := by
  refine ⟨m, ?_⟩
  have e : m = fun y => if y = k1 then some v1 else if y = k2 then some v2 else if y = k3 then some v3 else if y = k4 then some v4 else m y := by
    funext y
    split
    · rename_i e; rw [e, e1]
    · split
      · rename_i e; rw [e, e2]
      · split
        · rename_i e; rw [e, e3]
        · split
          · rename_i e; rw [e, e4]
          · rfl
  rw [e] at F
  exact F
end
theorem pop_sub (p : Pt) : ∀ S : List Pt, (∀ q ∈ pop p S, q ∈ S) ∧ (pop p S).length ≤ S.length
  | [] => by simp [pop]
  | [x] => by simp [pop]
  | b :: a :: t => by
    rw [pop]
    split
    · have ih := pop_sub p (a :: t)
      exact ⟨fun q hq => .tail _ (ih.1 q hq), Nat.le_succ_of_le ih.2⟩
    · exact ⟨fun _ h => h, Nat.le_refl _⟩
theorem push_mem_go : ∀ (ps S : List Pt), (∀ q ∈ ps.foldl push S, q ∈ ps ∨ q ∈ S) ∧ (ps.foldl push S).length ≤ ps.length + S.length
  | [], S => by simp
  | p :: ps, S => by
    have ih := push_mem_go ps (push S p)
    have hp := pop_sub p S
    refine ⟨fun q hq => ?_, ?_⟩
    · rcases ih.1 q hq with h | h
      · exact .inl (.tail _ h)
      · rcases List.mem_cons.mp h with rfl | h
        · exact .inl (.head _)
        · exact .inr (hp.1 q h)
    · have := ih.2
      simp only [push, List.length_cons, List.foldl_cons] at this ⊢
      omega
theorem push_mem (ps : List Pt) : ∀ q ∈ ps.foldl push [], q ∈ ps := fun q hq => ((push_mem_go ps []).1 q hq).elim id (fun h => nomatch h)
theorem push_len (ps : List Pt) : (ps.foldl push []).length ≤ ps.length := (push_mem_go ps []).2
section
theorem lines_C2_1 : True := by
  k_with "call builtin:len" => (k_here; (with_reducible show wpAny _ _ (call (Value.builtin "len") [Value.ref _]) _ _ _); k_dflt (refine' my_len ?k1 ?k2 ?k3 ?k4 ?_; (case k1 => k_asm); (case k2 => k_mem); (case k3 => (simp only [List.length_append, List.length_cons, List.length_nil]; exact rfl)); (case k4 => omega)); intro _ _; (try dsimp only))
  k_with "subscriptTail" => (k_here; (with_reducible show wpAny _ _ (subscriptTail _ _ (Value.ref _) (Value.int _ _)) _ _ _); first | (refine' my_back1 ?k1 ?k0 ?k2 ?k3 ?_ ?k5 ?k6; (case k1 => k_asm); (case k0 => first | exact rfl | decide); (case k2 => k_mem); (case k3 => omega); (case k5 => with_unfolding_all rfl); (case k6 => (intro _; with_unfolding_all rfl))) | (refine' my_back2 ?k1 ?k0 ?k2 ?k3 ?_ ?k5 ?k6; (case k1 => k_asm); (case k0 => first | exact rfl | decide); (case k2 => k_mem); (case k3 => omega); (case k5 => with_unfolding_all rfl); (case k6 => (intro _; with_unfolding_all rfl))))
  k_with "call builtin:list.pop" => (k_here; (with_reducible show wpAny _ _ (call (Value.builtin "list.pop") [Value.ref _]) _ _ _); k_dflt (refine' my_pop ?k1 ?k2 ?k3 ?k4 ?_; (case k1 => k_asm); (case k2 => k_asm); (case k3 => assumption); (case k4 => (simp only [List.length_append, List.length_cons, List.length_nil]; omega)); intro _ _ _; (try k_sweep); (try dsimp only)))
  k_with "call builtin:list.append" => (k_here; (with_reducible show wpAny _ _ (call (Value.builtin "list.append") [Value.ref _, _]) _ _ _); k_dflt (refine' my_append ?k1 ?k2 ?k3 ?k4 ?_; (case k1 => k_asm); (case k2 => k_asm); (case k3 => assumption); (case k4 => (simp only [List.length_append, List.length_cons, List.length_nil]; omega)); intro _ _ _; (try k_sweep); (try dsimp only)))
  k_with "call ref" => (k_here; (with_reducible show wpAny _ _ (call (Value.ref 53) _) _ _ _); k_dflt (refine' turn_ok ?k1 ?k2 ?k3 ?k4 ?k5 ?k6 ?k7 ?k8 ?k9 ?k10 ?k11 ?k12 ?k13 ?k14 ?_; (case k1 => k_asm); (case k2 => k_asm); (case k3 => k_asm); (case k4 => k_asm); (case k5 => k_asm); (case k6 => exact rfl); (case k7 => ktr_room); (case k8 => ktr_units); (case k9 => assumption); (case k10 => assumption); (case k11 => assumption); (case k12 => assumption); (case k13 => assumption); (case k14 => assumption); intro _ _ _ _ _; (try dsimp only)))
  k_with "subscriptTail Name Slice ref ref" => (k_here; (with_reducible show wpAny _ _ (subscriptTail _ (PySem.Expr.Slice none (some _) none _) (Value.ref _) (Value.ref _)) _ _ _); k_dflt (refine' my_init ?k1 ?k2 ?k3 ?k4 ?k5 ?k6 ?_ ?k8 ?k9; (case k1 => k_asm); (case k2 => k_asm); (case k3 => k_mem); (case k4 => exact IsPart.none); (case k5 => exact IsPart.int _ _); (case k6 => omega); (case k8 => with_unfolding_all rfl); (case k9 => (intro _; with_unfolding_all rfl)); intro _ _ _ _ _; (try k_sweep); (try dsimp only)))
  trivial
theorem half_ok {w : World} {loose : List Str} {mean : ExcName → Option Value} {mg mb : Str → Option Value} {dp un : Nat} {gd : Option (List Code)} {cn : Str} {cs : Scope} {a : Addr} {ccd : Value} {cl : List (Str × Addr)} {outer : List Env} {A₀ : Around} {base h₀ : Heap} {L : Addr} {m : Str → Option Value} {news nw : List (Addr × Obj)} {s : Shared} {l n : Nat} {vs : List Value} {ps : List Pt}
    {Q E : Value → Shared → Prop}
    (B : Below A₀ base outer h₀) (F : Fr h₀ L s.heap m) (X : (hd.heap_39 w.params).In h₀) (N : News h₀ L s.heap news) (T : Top hd.view_39 loose mean mg mb h₀) (hk : cs.kind = .function)
    (hdp : dp + 2 < recursionLimit) (hun : un + 200 < cLine)
    (hl : (l, listOf vs.toArray n) ∈ news) (hsub : ∀ q ∈ nw, q ∈ news) (R : PAll nw vs ps) (bd : ∀ p ∈ ps, Bd p) (hz : ps.length ≤ 100)
    (hret : ∀ D ws c h' tk', Fr h₀ L h' m → News h₀ L h' ((D, listOf ws.toArray c) :: news) → (∀ q ∈ news, q.1 < D) → PAll nw ws (half ps) → Q (.ref D) { s with heap := h', toks := tk' }) :
    wpAny (model PySem.Challenge.rw_zz0003_01.row.prog w) (ktrTop dp un gd cn cs L a ccd cl outer) (call (.ref 60) [.ref l]) Q E s := by
  revert X; k_fill; intro X
  refine wpAny_call ?_
  k_dflt ktr_enter
  k_steps
  rename_i g' L' h1 FG' B' X' T' D h2 l1 h3 F' N'
  obtain ⟨m', F2⟩ := fr_known2 (k1 := Str.ofString "points") (k2 := Str.ofString "found") F' rfl rfl
  clear F'
  refine For_invVF F2 rfl rfl ?_
  refine ld F2 rfl ?_
  refine kdl_iter (l := l) (vs := vs) (nn := n) (fun i m nx => ∃ c ws, nx = (D, listOf ws.toArray c) :: news ∧ PAll nw ws (((ps.take i).foldl push []).reverse) ∧ m (Str.ofString "found") = some (.ref D)) rfl (.tail _ hl) F2 N' ⟨0, [], rfl, .nil, rfl⟩ ?turn ?done
  case turn =>
    clear F2 N'
    rintro i v m₁ nx h tk own hv hoff - ⟨c, ws, rfl, hS, hm⟩ F₁ N₁
    have hi : i < ps.length := by rw [← R.length]; exact (List.getElem?_eq_some_iff.mp hv).1
    obtain ⟨v', hv', hP⟩ := R.get hi
    rw [hv] at hv'
    obtain rfl := Option.some.inj hv'
    clear hv'
    obtain ⟨m₂, F₂⟩ := fr_known2 (k1 := Str.ofString "point") (k2 := Str.ofString "found") F₁ rfl hm
    clear F₁ hm
    simp only [List.cons_append] at N₁
    have hD : ∀ p ∈ news ++ own, p.1 ≠ D := by
      intro p hp
      rcases List.mem_append.mp hp with h | h
      · exact Nat.ne_of_lt (l1 p h)
      · exact hoff p h D (by simp)
    have hSl : ((ps.take i).foldl push []).length ≤ 100 := Nat.le_trans (push_len _) (by simp; omega)
    have hSb : ∀ q ∈ (ps.take i).foldl push [], Bd q := fun q hq => bd q (List.mem_of_mem_take (push_mem _ q hq))
    walk1
    refine While_inv (fun k m nx => ∃ c ws S, nx = (D, listOf ws.toArray c) :: (news ++ own) ∧ PAll nw ws S.reverse ∧ pop ps[i] S = pop ps[i] ((ps.take i).foldl push []) ∧ (∀ q ∈ S, Bd q) ∧ S.length = k ∧ k ≤ 100 ∧ m (Str.ofString "point") = some v ∧ m (Str.ofString "found") = some (.ref D)) F₂ N₁ ⟨c, ws, _, rfl, hS, rfl, hSb, rfl, hSl, rfl, rfl⟩ ?_
    clear hS hSl hSb
    rintro k m₃ nx h₃ tk₃ F₃ N₃ ⟨c₃, ws₃, S, rfl, hS, hpop, hB, hk', hk1, hm1, hm2⟩
    clear F₂ N₁
    obtain ⟨m₄, F₄⟩ := fr_known2 (k1 := Str.ofString "point") (k2 := Str.ofString "found") F₃ hm1 hm2
    clear hm1 hm2 F₃
    have bi : Bd ps[i] := bd _ (List.getElem_mem hi)
    have fin : ∀ (us : List Value) (c : Nat) (m₅ : Str → Option Value) (h₅ : Heap) (tk₅ : Nat), Fr g' L' h₅ m₅ → News g' L' h₅ ((D, listOf us.toArray c) :: (news ++ own)) → m₅ (Str.ofString "found") = some (.ref D) → PAll nw us (push ((ps.take i).foldl push []) ps[i]).reverse →
        InvEndG g' L' (fun m' nx => (l, listOf vs.toArray n) ∈ nx ∧ ∃ c ws, nx = (D, listOf ws.toArray c) :: news ∧ PAll nw ws (((ps.take (i + 1)).foldl push []).reverse) ∧ m' (Str.ofString "found") = some (.ref D)) own { s with heap := h, toks := tk } { s with heap := h₅, toks := tk₅ } := by
      intro us c m₅ h₅ tk₅ F₅ N₅ hm hP
      refine InvEndG.intro (nx := (D, listOf us.toArray c) :: news) F₅ N₅ ⟨.tail _ hl, c, us, rfl, ?_, hm⟩ hoff ?_ ?_
      · rw [List.take_add_one, List.getElem?_eq_getElem hi, List.foldl_append]
        exact hP
      · intro p hp
        rcases List.mem_cons.mp hp with rfl | hp
        · exact .head _
        · exact .tail _ (List.mem_append_left _ hp)
      · exact fun p hp => .tail _ (List.mem_append_right _ hp)
    match S, hS, hpop, hB, hk' with
    | [], hS, hpop, hB, hk' =>
      cases hS
      k_steps
      refine fin _ _ _ _ _ (by assumption) (by assumption) rfl ?_
      rw [push, ← hpop]
      exact .one hP
    | [x], hS, hpop, hB, hk' =>
      obtain ⟨ws', v', rfl, hS', hv'⟩ := PAll.snoc (ps := []) hS
      cases hS'
      k_steps
      refine fin _ _ _ _ _ (by assumption) (by assumption) rfl ?_
      rw [push, ← hpop]
      exact .cons hv' (.one hP)
    | y :: x :: S, hS, hpop, hB, hk' =>
      rw [List.reverse_cons] at hS
      obtain ⟨ws', vy, rfl, hS', hvy⟩ := PAll.snoc hS
      rw [List.reverse_cons] at hS'
      obtain ⟨ws, vx, rfl, hS'', hvx⟩ := PAll.snoc hS'
      have hwl : ws.length ≤ 100 := by
        have h1 := hS''.length
        simp only [List.length_reverse, List.length_cons] at h1 hk'
        omega
      have by' : Bd y := hB y (by simp)
      have bx : Bd x := hB x (by simp)
      have pv : PIn (((D, listOf (ws ++ [vx] ++ [vy]).toArray c₃) :: (news ++ own))) v ps[i] := hP.mono fun q hq => .tail _ (List.mem_append_left _ (hsub q hq))
      have px : PIn (((D, listOf (ws ++ [vx] ++ [vy]).toArray c₃) :: (news ++ own))) vx x := hvx.mono fun q hq => .tail _ (List.mem_append_left _ (hsub q hq))
      have py : PIn (((D, listOf (ws ++ [vx] ++ [vy]).toArray c₃) :: (news ++ own))) vy y := hvy.mono fun q hq => .tail _ (List.mem_append_left _ (hsub q hq))
      clear hS
      k_steps
      · rename (turn _ _ _ ≤ 0) => ht
        refine WhileStep.intro (n' := k - 1) (by assumption) (by assumption) ?_ ⟨_, _, x :: S, rfl, ?_, ?_, ?_, ?_, ?_, rfl, rfl⟩
        · simp only [List.length_cons] at hk'; omega
        · rw [List.reverse_cons]; exact hS'
        · rw [← hpop]
          conv => rhs; rw [pop]
          rw [if_pos ht]
        · exact fun q hq => hB q (.tail _ hq)
        · simp only [List.length_cons] at hk' ⊢; omega
        · omega
      · rename (¬ turn _ _ _ ≤ 0) => ht
        refine fin _ _ _ _ _ (by assumption) (by assumption) rfl ?_
        rw [push, ← hpop, pop, if_neg ht]
        simp only [List.reverse_cons]
        exact ((hS''.append (.one hvx)).append (.one hvy)).append (.one hP)
  case done =>
    clear F2 N'
    rintro m₁ nx h tk ⟨c, ws, rfl, hS, hm⟩ F₁ N₁
    rw [R.length, List.take_length] at hS
    obtain ⟨m₂, F₂⟩ := fr_known1 (k := Str.ofString "found") F₁ hm
    clear F₁ hm
    have hwl : ws.length ≤ 100 := by
      have h1 := hS.length
      have := push_len ps
      simp only [List.length_reverse] at h1
      omega
    k_steps
    rename News h₀ L _ _ => kN
    rename (∀ p ∈ _ :: _, _ < _) => hlt
    refine hret _ ws.dropLast 0 _ _ (by assumption) (fun p hp => kN p ?_) (fun q hq => hlt q (.tail _ hq)) ?_
    · rcases List.mem_cons.mp hp with rfl | hp
      · exact .head _
      · exact .tail _ (.tail _ hp)
    · have e : half ps = ((ps.foldl push []).reverse).dropLast := by rw [half, List.dropLast_reverse]
      rw [e, List.dropLast_eq_take, List.dropLast_eq_take]
      have h1 := hS.length
      rw [← h1]
      exact hS.take _
end
end Mine

/- C3 -/
namespace Mine
open PySem PySem.W PyProof.Rows PySem.Calls PySem.Spec
local macro_rules | `(tactic| walk_at $s:str) => `(tactic| k_extra $s)
theorem reset_C3 {prog : Program} {w : World} {A : Around} {env : Env} {Q : Flow → Shared → Prop} {E : Value → Shared → Prop} {s : Shared} (h : Q .next s) : wpAny (model prog w) A (execs [] env) Q E s := by
  k_with_none
  w_top off
  walk1
  exact h
variable {w : World} {loose : List Str} {mean : ExcName → Option Value} {mg mb : Str → Option Value} {dp un : Nat} {gd : Option (List Code)} {cn : Str} {cs : Scope} {a : Addr} {ccd : Value} {cl : List (Str × Addr)} {outer : List Env} {A₀ : Around} {base h₀ : Heap} {L : Addr} {m : Str → Option Value} {news : List (Addr × Obj)} {s : Shared}
  {Q E : Value → Shared → Prop}
theorem plt_trans {a b c : Pt} (h1 : pltI a b = true) (h2 : pltI b c = true) : pltI a c = true := by
  simp only [pltI, Bool.or_eq_true, Bool.and_eq_true, decide_eq_true_eq] at *
  omega
def cut (p : Pt) (os : List Pt) : Nat := (os.takeWhile (fun a => pltI a p)).length
theorem cut_eq {p : Pt} : ∀ {os : List Pt} {lo : Nat}, lo ≤ os.length → (∀ j (hj : j < os.length), j < lo → pltI os[j] p = true) → (∀ j (hj : j < os.length), lo ≤ j → pltI os[j] p = false) → cut p os = lo
  | [], lo, h, _, _ => by simp only [List.length_nil] at h; simp [cut]; omega
  | a :: os, 0, _, _, hh => by
    have := hh 0 (by simp) (Nat.le_refl _)
    simp only [List.getElem_cons_zero] at this
    simp [cut, List.takeWhile_cons, this]
  | a :: os, lo + 1, h, hl, hh => by
    have h0 := hl 0 (by simp) (Nat.succ_pos _)
    simp only [List.getElem_cons_zero] at h0
    have ih := cut_eq (p := p) (os := os) (lo := lo) (by simpa using h) (fun j hj hj' => by have := hl (j + 1) (by simpa using hj) (by omega); simpa using this) (fun j hj hj' => by have := hh (j + 1) (by simpa using hj) (by omega); simpa using this)
    simp only [cut] at ih
    simp [cut, List.takeWhile_cons, h0, ih]
section
local macro_rules | `(tactic| walk_at "exec While Compare cons nil") => `(tactic| refine Stop.of ?_)
theorem lines_C3_1 : True := by
  k_with "my enter with defaults" => (refine' code_def ?k1 ?k2 ?k3 ?k4 ?k5 ?kA ?kF ?kK ?k6 ?k7 ?k8 ?k9 ?kB ?_ ?c2 ?c3 ?c4 ?c5; (case kA => exact rfl); (case kF => exact rfl); (case kK => assumption); (case k1 => k_asm); (case k2 => k_asm); (case k3 => k_asm); (case k4 => k_asm); (case k5 => k_asm); (case k6 => k_is); (case k7 => k_is); (case k8 => ktr_room); (case k9 => (refine' kp_binds ?kx ?ke; (case kx => k_in); (case ke => exact fun _ => rfl))); (case c5 => decide); (case kB => exact locs rfl); (case c2 => exact rfl); (case c3 => exact rfl); (case c4 => exact rfl); k_whole; intro _ _ _ _ _ _ _ _ _; (try dsimp only); (try k_fold))
  k_with "call builtin:len" => (k_here; (with_reducible show wpAny _ _ (call (Value.builtin "len") [Value.ref _]) _ _ _); k_dflt (refine' my_lenP ?k1 ?k2 ?k3 ?k4 ?_; (case k1 => k_asm); (case k2 => k_mem); (case k3 => assumption); (case k4 => omega)); intro _ _; (try dsimp only))
  k_with "subscriptTail" => (k_here; (with_reducible show wpAny _ _ (subscriptTail _ _ (Value.ref _) (Value.int _ _)) _ _ _); (refine' my_item ?k1 ?k2 ?k3 ?k4 ?k5 ?k6 ?_ ?k8 ?k9; (case k1 => k_asm); (case k2 => k_mem); (case k3 => assumption); (case k4 => omega); (case k5 => omega); (case k6 => omega); (case k8 => with_unfolding_all rfl); (case k9 => (intro _; with_unfolding_all rfl))); intro _ _)
  k_with "compareOp Lt" => (k_here; (with_reducible show wpAny _ _ (compareOp CmpOp.Lt _ _) _ _ _); (refine' my_lt ?k1 ?k2 ?k3 ?k4 ?_; (case k2 => assumption); (case k3 => assumption); (case k1 => k_asm); (case k4 => ktr_units)))
  trivial
theorem bisect_ok {D c : Nat} {us : List Value} {os : List Pt} {v : Value} {p : Pt} {t0 : Tok}
    (B : Below A₀ base outer h₀) (F : Fr h₀ L s.heap m) (X : (hd.heap_39 w.params).In h₀) (N : News h₀ L s.heap news) (T : Top hd.view_39 loose mean mg mb h₀) (hk : cs.kind = .function)
    (hdp : dp + 2 < recursionLimit) (hun : un + 200 < cLine)
    (hl : (D, listOf us.toArray c) ∈ news) (R : PAll news us os) (Rv : PIn news v p) (hs : os.Pairwise (fun a b => pltI a b = true)) (hz : os.length ≤ 100)
    (hret : ∀ h' tk' t, Fr h₀ L h' m → News h₀ L h' news → Q (.int (cut p os) t) { s with heap := h', toks := tk' }) :
    wpAny (model PySem.Challenge.rw_zz0003_01.row.prog w) (ktrTop dp un gd cn cs L a ccd cl outer) (call (.ref 46) [.ref D, v, .int 0 t0, .none]) Q E s := by
  revert X; k_fill; intro X
  refine wpAny_call ?_
  k_dflt (walk_at "my enter with defaults")
  k_steps
  refine Stop.go ?_
  rename Fr _ _ _ _ => F'
  rename News _ _ _ _ => N'
  obtain ⟨m', F2⟩ := fr_known4 (k1 := Str.ofString "a") (k2 := Str.ofString "x") (k3 := Str.ofString "lo") (k4 := Str.ofString "hi") F' rfl rfl rfl rfl
  clear F'
  refine While_inv (fun k m nx => ∃ (lo hi : Nat) (t1 t2 : Tok), nx = news ∧ lo ≤ hi ∧ hi ≤ os.length ∧ k = hi - lo ∧ (∀ j (hj : j < os.length), j < lo → pltI os[j] p = true) ∧ (∀ j (hj : j < os.length), hi ≤ j → pltI os[j] p = false) ∧
    m (Str.ofString "a") = some (.ref D) ∧ m (Str.ofString "x") = some v ∧ m (Str.ofString "lo") = some (.int (lo : Int) t1) ∧ m (Str.ofString "hi") = some (.int (hi : Int) t2)) F2 N' ⟨0, os.length, _, _, rfl, Nat.zero_le _, Nat.le_refl _, rfl, fun j _ hj => absurd hj (Nat.not_lt_zero _), fun j hj hj' => absurd hj (Nat.not_lt.mpr hj'), rfl, rfl, rfl, rfl⟩ ?_
  rintro k m₃ nx h₃ tk₃ F₃ N₃ ⟨lo, hi, t1, t2, rfl, hle, hhi, rfl, hlow, hhigh, hm1, hm2, hm3, hm4⟩
  clear F2 N'
  obtain ⟨m₄, F₄⟩ := fr_known4 (k1 := Str.ofString "a") (k2 := Str.ofString "x") (k3 := Str.ofString "lo") (k4 := Str.ofString "hi") F₃ hm1 hm2 hm3 hm4
  clear hm1 hm2 hm3 hm4 F₃
  have hfd : (((lo : Int) + (hi : Int)).fdiv 2) = (((lo + hi) / 2 : Nat) : Int) := by
    rw [Int.fdiv_eq_ediv_of_nonneg _ (by decide)]; omega
  have srt : ∀ i j (hi : i < os.length) (hj : j < os.length), i < j → pltI os[i] os[j] = true := fun i j hi hj hij => List.pairwise_iff_getElem.mp hs i j hi hj hij
  k_steps
  · rename (lo : Int) < (hi : Int) => hlt
    rename (pltI _ _ = true) => hp
    have hml : (lo + hi) / 2 < os.length := by omega
    rw [hfd, Int.toNat_natCast, List.getD_eq_getElem?_getD, List.getElem?_eq_getElem hml, Option.getD_some] at hp
    refine WhileStep.intro (n' := hi - ((lo + hi) / 2 + 1)) (by assumption) (by assumption) (by omega) ⟨(lo + hi) / 2 + 1, hi, ?u1, t2, rfl, by omega, hhi, rfl, fun j hj hj' => ?_, hhigh, rfl, rfl, ?e1, rfl⟩
    case e1 =>
      show some (Value.int (_ + 1) _) = _
      rw [hfd]; rfl
    · by_cases e : j = (lo + hi) / 2
      · subst e; exact hp
      · exact plt_trans (srt j _ hj hml (by omega)) hp
  · rename (lo : Int) < (hi : Int) => hlt
    rename (pltI _ _ = false) => hp
    have hml : (lo + hi) / 2 < os.length := by omega
    rw [hfd, Int.toNat_natCast, List.getD_eq_getElem?_getD, List.getElem?_eq_getElem hml, Option.getD_some] at hp
    refine WhileStep.intro (n' := (lo + hi) / 2 - lo) (by assumption) (by assumption) (by omega) ⟨lo, (lo + hi) / 2, t1, ?u2, rfl, by omega, by omega, rfl, hlow, fun j hj hj' => ?_, rfl, rfl, rfl, ?e2⟩
    case e2 =>
      show some (Value.int _ _) = _
      rw [hfd]
    · by_cases e : j = (lo + hi) / 2
      · subst e; simpa using hp
      · cases hq : pltI os[j] p with
        | false => rfl
        | true => exact absurd (plt_trans (srt _ j hml hj (by omega)) hq) (by rw [hp]; decide)
  · rename (¬ (lo : Int) < (hi : Int)) => hlt
    have e : lo = hi := by omega
    subst e
    have := cut_eq hhi hlow hhigh
    rw [← this]
    exact hret _ _ _ (by assumption) (by assumption)
end
def insP (os : List Pt) (p : Pt) : List Pt := os.take (cut p os) ++ p :: os.drop (cut p os)
section
theorem lines_C3_2 : True := by
  k_with_none
  k_with "my enter with defaults" => (refine' code_def ?k1 ?k2 ?k3 ?k4 ?k5 ?kA ?kF ?kK ?k6 ?k7 ?k8 ?k9 ?kB ?_ ?c2 ?c3 ?c4 ?c5; (case kA => exact rfl); (case kF => exact rfl); (case kK => assumption); (case k1 => k_asm); (case k2 => k_asm); (case k3 => k_asm); (case k4 => k_asm); (case k5 => k_asm); (case k6 => k_is); (case k7 => k_is); (case k8 => ktr_room); (case k9 => (refine' kp_binds ?kx ?ke; (case kx => k_in); (case ke => exact fun _ => rfl))); (case c5 => decide); (case kB => exact locs rfl); (case c2 => exact rfl); (case c3 => exact rfl); (case c4 => exact rfl); k_whole; intro _ _ _ _ _ _ _ _ _; (try dsimp only); (try k_fold))
  k_with "call ref" => (k_here; (with_reducible show wpAny _ _ (call (Value.ref 46) _) _ _ _); k_dflt (refine' bisect_ok ?k1 ?k2 ?k3 ?k4 ?k5 ?k6 ?k7 ?k8 ?k9 ?k10 ?k11 ?k12 ?k13 ?_; (case k1 => k_asm); (case k2 => k_asm); (case k3 => k_asm); (case k4 => k_asm); (case k5 => k_asm); (case k6 => exact rfl); (case k7 => ktr_room); (case k8 => ktr_units); (case k9 => exact List.Mem.head _); (case k10 => assumption); (case k11 => assumption); (case k12 => assumption); (case k13 => assumption); intro _ _ _ _ _; (try dsimp only)))
  k_with "call builtin:list.insert" => (k_here; (with_reducible show wpAny _ _ (call (Value.builtin "list.insert") [Value.ref _, Value.int _ _, _]) _ _ _); k_dflt (refine' my_insert ?k1 ?k2 ?k3 ?k4 ?k5 ?_; (case k1 => k_asm); (case k2 => k_asm); (case k3 => assumption); (case k4 => omega); (case k5 => assumption)); intro _ _ _; (try k_sweep); (try dsimp only))
  trivial
theorem cut_le (p : Pt) (os : List Pt) : cut p os ≤ os.length := (List.takeWhile_sublist _).length_le
theorem insort_ok {nw : List (Addr × Obj)} {D c : Nat} {us : List Value} {os : List Pt} {v : Value} {p : Pt}
    (B : Below A₀ base outer h₀) (F : Fr h₀ L s.heap m) (X : (hd.heap_39 w.params).In h₀) (N : News h₀ L s.heap ((D, listOf us.toArray c) :: news)) (T : Top hd.view_39 loose mean mg mb h₀) (hk : cs.kind = .function)
    (hdp : dp + 3 < recursionLimit) (hun : un + 300 < cLine) (hD : ∀ p ∈ news, p.1 ≠ D)
    (hsub : ∀ q ∈ nw, q ∈ news) (R : PAll nw us os) (Rv : PIn nw v p) (hs : os.Pairwise (fun a b => pltI a b = true)) (hz : os.length ≤ 100)
    (hret : ∀ h' tk' ws c', Fr h₀ L h' m → News h₀ L h' ((D, listOf ws.toArray c') :: news) → PAll nw ws (insP os p) → Q .none { s with heap := h', toks := tk' }) :
    wpAny (model PySem.Challenge.rw_zz0003_01.row.prog w) (ktrTop dp un gd cn cs L a ccd cl outer) (call (.ref 37) [.ref D, v]) Q E s := by
  revert X; k_fill; intro X
  have R2 : PAll ((D, listOf us.toArray c) :: news) us os := R.mono fun q hq => .tail _ (hsub q hq)
  have Rv2 : PIn ((D, listOf us.toArray c) :: news) v p := Rv.mono fun q hq => .tail _ (hsub q hq)
  have hul := R.length
  have hcu := cut_le p os
  have hcl : cut p os ≤ us.length := by omega
  have hub : us.length ≤ 100 := by omega
  refine wpAny_call ?_
  k_dflt (walk_at "my enter with defaults")
  k_steps
  refine hret _ _ _ _ (by assumption) (by assumption) ?_
  exact (R.take _).append (.cons Rv (R.drop _))
end
end Mine

/- C4 -/
namespace Mine
open PySem PySem.W PyProof.Rows PySem.Calls PySem.Spec
local macro_rules | `(tactic| walk_at $s:str) => `(tactic| k_extra $s)
theorem reset_C4 {prog : Program} {w : World} {A : Around} {env : Env} {Q : Flow → Shared → Prop} {E : Value → Shared → Prop} {s : Shared} (h : Q .next s) : wpAny (model prog w) A (execs [] env) Q E s := by
  k_with_none
  w_top off
  walk1
  exact h
variable {w : World} {loose : List Str} {mean : ExcName → Option Value} {mg mb : Str → Option Value} {dp un : Nat} {gd : Option (List Code)} {cn : Str} {cs : Scope} {a : Addr} {ccd : Value} {cl : List (Str × Addr)} {outer : List Env} {A₀ : Around} {base h₀ : Heap} {L : Addr} {m : Str → Option Value} {news : List (Addr × Obj)} {s : Shared}
  {Q E : Value → Shared → Prop}
def ordr (ps : List Pt) : List Pt := ps.foldl insP []
def ring (ps : List Pt) : List Pt := if (ordr ps).length < 2 then ordr ps else half (ordr ps) ++ half (ordr ps).reverse
section
theorem lines_C4_1 : True := by
  k_with "my sub" => (intro q9 hq9; first | exact hq9 | exact .tail _ hq9 | exact .tail _ (.tail _ hq9) | exact .tail _ (.tail _ (.tail _ hq9)) | exact .tail _ (.tail _ (.tail _ (.tail _ hq9))) | (simp only [List.mem_append, List.mem_cons] at hq9 ⊢; grind))
  k_with "my pall" => first | assumption | exact PAll.mono (by assumption) (by walk_at "my sub")
  k_with "my pin" => first | assumption | exact PIn.mono (by assumption) (by walk_at "my sub")
  k_with "call builtin:len" => (k_here; (with_reducible show wpAny _ _ (call (Value.builtin "len") [Value.ref _]) _ _ _); k_dflt (refine' my_lenP ?k1 ?k2 ?k3 ?k4 ?_; (case k1 => k_asm); (case k2 => k_mem); (case k3 => assumption); (case k4 => omega)); intro _ _; (try dsimp only))
  k_with "subscriptTail" => (k_here; (with_reducible show wpAny _ _ (subscriptTail _ _ (Value.ref _) (Value.int _ _)) _ _ _); first | (refine' my_item ?k1 ?k2 ?k3 ?k4 ?k5 ?k6 ?_ ?k8 ?k9; (case k1 => k_asm); (case k2 => k_mem); (case k3 => assumption); (case k4 => omega); (case k5 => omega); (case k6 => omega); (case k8 => with_unfolding_all rfl); (case k9 => (intro _; with_unfolding_all rfl))) | (refine' my_itemN ?k1 ?k2 ?k3 ?k4 ?k5 ?k6 ?_ ?k8 ?k9; (case k1 => k_asm); (case k2 => k_mem); (case k3 => assumption); (case k4 => omega); (case k5 => omega); (case k6 => omega); (case k8 => with_unfolding_all rfl); (case k9 => (intro _; with_unfolding_all rfl))); intro _ _)
  k_with "compareOp Lt" => (k_here; (with_reducible show wpAny _ _ (compareOp CmpOp.Lt _ _) _ _ _); (refine' my_lt ?k1 ?k2 ?k3 ?k4 ?_; (case k2 => walk_at "my pin"); (case k3 => walk_at "my pin"); (case k1 => k_asm); (case k4 => ktr_units)))
  k_with "compareOp NotEq" => (k_here; (with_reducible show wpAny _ _ (compareOp CmpOp.NotEq _ _) _ _ _); (refine' my_ne ?k1 ?k2 ?k3 ?k4 ?_; (case k2 => walk_at "my pin"); (case k3 => walk_at "my pin"); (case k1 => k_asm); (case k4 => ktr_units)))
  k_with "binaryOp Add ref ref" => (k_here; (with_reducible show wpAny _ _ (binaryOp _ (Value.ref _) (Value.ref _)) _ _ _); k_dflt (refine' my_addP ?k1 ?k2 ?k3 ?k4 ?k7 ?k8 ?k5 ?k6 ?_; (case k1 => k_asm); (case k2 => k_asm); (case k3 => k_mem); (case k4 => k_mem); (case k7 => assumption); (case k8 => walk_at "my pall"); (case k5 => omega); (case k6 => omega)); intro _ _ _ _ _ _ _; (try k_sweep); (try dsimp only))
  k_with "subscriptTail Name Slice ref ref" => (k_here; (with_reducible show wpAny _ _ (subscriptTail _ (PySem.Expr.Slice none none (some _) _) (Value.ref _) (Value.ref _)) _ _ _); k_dflt (refine' my_rev ?k1 ?k2 ?k3 ?k4 ?k5 ?_ ?k8 ?k9; (case k1 => k_asm); (case k2 => k_asm); (case k3 => k_mem); (case k4 => exact IsPart.int _ _); (case k5 => omega); (case k8 => with_unfolding_all rfl); (case k9 => (intro _; with_unfolding_all rfl))); intro _ _ _ _ _; (try k_sweep); (try dsimp only))
  k_with "call ref" => (k_here; (with_reducible show wpAny _ _ (call (Value.ref 53) _) _ _ _); k_dflt (refine' turn_ok ?k1 ?k2 ?k3 ?k4 ?k5 ?k6 ?k7 ?k8 ?k9 ?k10 ?k11 ?k12 ?k13 ?k14 ?_; (case k1 => k_asm); (case k2 => k_asm); (case k3 => k_asm); (case k4 => k_asm); (case k5 => k_asm); (case k6 => first | exact rfl | assumption); (case k7 => ktr_room); (case k8 => ktr_units); (case k9 => walk_at "my pin"); (case k10 => walk_at "my pin"); (case k11 => walk_at "my pin"); (case k12 => walk_at "my bd"); (case k13 => walk_at "my bd"); (case k14 => walk_at "my bd")); intro _ _ _ _ _; (try dsimp only))
  k_with "my bd" => assumption
  k_with "call ref" => (k_here; (with_reducible show wpAny _ _ (call (Value.ref 60) _) _ _ _); k_dflt (refine' half_ok ?k1 ?k2 ?k3 ?k4 ?k5 ?k6 ?k7 ?k8 ?k9 ?k13 ?k10 ?k11 ?k12 ?_; (case k1 => k_asm); (case k2 => k_asm); (case k3 => k_asm); (case k4 => k_asm); (case k5 => k_asm); (case k6 => first | exact rfl | assumption); (case k7 => ktr_room); (case k8 => ktr_units); (case k9 => k_mem); (case k10 => first | assumption | exact PAll.reverse (by assumption)); (case k13 => walk_at "my sub"); (case k11 => walk_at "my bds"); (case k12 => walk_at "my len")); intro _ _ _ _ _ _ _ _ _; (try dsimp only))
  k_with "my bds" => assumption
  k_with "my len" => (simp only [List.length_append, List.length_cons, List.length_nil, List.length_reverse, List.length_map] at *; omega)
  k_with "call ref" => (k_here; (with_reducible show wpAny _ _ (call (Value.ref 37) _) _ _ _); k_dflt (refine' insort_ok ?k1 ?k2 ?k3 ?k4 ?k5 ?k6 ?k7 ?k8 ?k9 ?k13 ?k10 ?k11 ?k12 ?k14 ?_; (case k1 => k_asm); (case k2 => k_asm); (case k3 => k_asm); (case k4 => k_asm); (case k5 => k_asm); (case k6 => first | exact rfl | assumption); (case k7 => ktr_room); (case k8 => ktr_units); (case k9 => assumption); (case k10 => assumption); (case k11 => assumption); (case k13 => walk_at "my sub"); (case k12 => assumption); (case k14 => assumption)); intro _ _ _ _ _ _ _; (try dsimp only))
  trivial
theorem insP_mem (os : List Pt) (p q : Pt) : q ∈ insP os p ↔ q = p ∨ q ∈ os := by
  have e := List.take_append_drop (cut p os) os
  have : q ∈ os ↔ q ∈ os.take (cut p os) ∨ q ∈ os.drop (cut p os) := by rw [← List.mem_append, e]
  rw [this, insP, List.mem_append, List.mem_cons]
  constructor
  · rintro (h | h | h)
    · exact .inr (.inl h)
    · exact .inl h
    · exact .inr (.inr h)
  · rintro (h | h | h)
    · exact .inr (.inl h)
    · exact .inl h
    · exact .inr (.inr h)
theorem insP_len (os : List Pt) (p : Pt) : (insP os p).length = os.length + 1 := by
  have := cut_le p os
  rw [insP, List.length_append, List.length_cons, List.length_take, List.length_drop]
  omega
theorem cut_lt {p : Pt} {os : List Pt} : ∀ {q : Pt}, q ∈ os.take (cut p os) → pltI q p = true := by
  intro q hq
  have : os.take (cut p os) = os.takeWhile (fun a => pltI a p) := (List.prefix_iff_eq_take.mp (List.takeWhile_prefix _)).symm
  rw [this] at hq
  exact List.all_eq_true.mp (List.all_takeWhile (l := os) (p := fun a => pltI a p)) q hq
theorem plt_total {a b : Pt} (h : pltI a b = false) (hne : a ≠ b) : pltI b a = true := by
  obtain ⟨a1, a2⟩ := a
  obtain ⟨b1, b2⟩ := b
  simp only [ne_eq, Prod.mk.injEq] at hne
  simp only [pltI, Bool.or_eq_false_iff, Bool.and_eq_false_iff, decide_eq_false_iff_not, Bool.or_eq_true, Bool.and_eq_true, decide_eq_true_eq] at *
  omega
theorem cut_ge {p : Pt} : ∀ {os : List Pt}, os.Pairwise (fun a b => pltI a b = true) → p ∉ os → ∀ q ∈ os.drop (cut p os), pltI p q = true
  | [], _, _, q, hq => by simp at hq
  | a :: os, hs, hp, q, hq => by
    rw [List.pairwise_cons] at hs
    simp only [List.mem_cons, not_or] at hp
    cases h : pltI a p with
    | true =>
      have : cut p (a :: os) = cut p os + 1 := by simp [cut, h]
      rw [this, List.drop_succ_cons] at hq
      exact cut_ge hs.2 hp.2 q hq
    | false =>
      have : cut p (a :: os) = 0 := by simp [cut, h]
      rw [this, List.drop_zero] at hq
      have hpa := plt_total h (fun e => hp.1 e.symm)
      rcases List.mem_cons.mp hq with rfl | hq
      · exact hpa
      · exact plt_trans hpa (hs.1 q hq)
theorem insP_sorted {os : List Pt} {p : Pt} (hs : os.Pairwise (fun a b => pltI a b = true)) (hp : p ∉ os) : (insP os p).Pairwise (fun a b => pltI a b = true) := by
  have e := List.take_append_drop (cut p os) os
  have hs' := hs
  rw [← e, List.pairwise_append] at hs'
  rw [insP, List.pairwise_append, List.pairwise_cons]
  refine ⟨hs'.1, ⟨cut_ge hs hp, hs'.2.1⟩, fun a ha b hb => ?_⟩
  rcases List.mem_cons.mp hb with rfl | hb
  · exact cut_lt ha
  · exact hs'.2.2 a ha b hb
theorem ordr_go : ∀ (ps os : List Pt), os.Pairwise (fun a b => pltI a b = true) → (os ++ ps).Nodup → (ps.foldl insP os).Pairwise (fun a b => pltI a b = true) ∧ (∀ q, q ∈ ps.foldl insP os ↔ q ∈ os ∨ q ∈ ps) ∧ (ps.foldl insP os).length = os.length + ps.length
  | [], os, h, _ => ⟨h, by simp, by simp⟩
  | p :: ps, os, h, hn => by
    have hp : p ∉ os := fun hm => by
      rw [List.nodup_append] at hn
      exact hn.2.2 p hm p (.head _) rfl
    have hn2 : (insP os p ++ ps).Nodup := by
      rw [List.nodup_append] at hn ⊢
      have h2 := List.nodup_cons.mp hn.2.1
      refine ⟨(insP_sorted h hp).imp (fun {a b} hab e => ?_), h2.2, fun a ha b hb e => ?_⟩
      · subst e; simp [pltI] at hab
      · subst e
        rcases (insP_mem os p a).mp ha with rfl | ha
        · exact h2.1 hb
        · exact hn.2.2 a ha a (.tail _ hb) rfl
    obtain ⟨a1, a2, a3⟩ := ordr_go ps (insP os p) (insP_sorted h hp) hn2
    refine ⟨a1, fun q => ?_, ?_⟩
    · rw [List.foldl_cons, a2, insP_mem, List.mem_cons]
      constructor
      · rintro ((h | h) | h)
        · exact .inr (.inl h)
        · exact .inl h
        · exact .inr (.inr h)
      · rintro (h | h | h)
        · exact .inl (.inr h)
        · exact .inl (.inl h)
        · exact .inr h
    · rw [List.foldl_cons, a3, insP_len, List.length_cons]; omega
theorem ordr_spec {ps : List Pt} (hn : ps.Nodup) : (ordr ps).Pairwise (fun a b => pltI a b = true) ∧ (∀ q, q ∈ ordr ps ↔ q ∈ ps) ∧ (ordr ps).length = ps.length := by
  have h := ordr_go ps [] .nil (by simpa using hn)
  exact ⟨h.1, fun q => by simpa [ordr] using h.2.1 q, by simpa [ordr] using h.2.2⟩
theorem half_len (ps : List Pt) : (half ps).length ≤ ps.length := by
  have := push_len ps
  rw [half, List.length_reverse, List.length_tail]
  omega
theorem ring_ok {nw : List (Addr × Obj)} {l n : Nat} {vs : List Value} {ps : List Pt}
    (B : Below A₀ base outer h₀) (F : Fr h₀ L s.heap m) (X : (hd.heap_39 w.params).In h₀) (N : News h₀ L s.heap news) (T : Top hd.view_39 loose mean mg mb h₀) (hk : cs.kind = .function)
    (hdp : dp + 4 < recursionLimit) (hun : un + 400 < cLine)
    (hl : (l, listOf vs.toArray n) ∈ news) (hsub : ∀ q ∈ nw, q ∈ news) (R : PAll nw vs ps) (bd : ∀ p ∈ ps, Bd p) (hz : ps.length ≤ 100) (hnd : ps.Nodup)
    (hret : ∀ D ws c h' tk', Fr h₀ L h' m → News h₀ L h' ((D, listOf ws.toArray c) :: news) → (∀ q ∈ news, q.1 < D) → PAll nw ws (ring ps) → Q (.ref D) { s with heap := h', toks := tk' }) :
    wpAny (model PySem.Challenge.rw_zz0003_01.row.prog w) (ktrTop dp un gd cn cs L a ccd cl outer) (call (.ref 67) [.ref l]) Q E s := by
  revert X; k_fill; intro X
  refine wpAny_call ?_
  k_dflt ktr_enter
  k_steps
  rename_i g' L' h1 FG' B' X' T' D h2 l1 h3 F' N'
  obtain ⟨m', F2⟩ := fr_known2 (k1 := Str.ofString "points") (k2 := Str.ofString "order") F' rfl rfl
  clear F'
  refine For_invVF F2 rfl rfl ?_
  refine ld F2 rfl ?_
  refine kdl_iter (l := l) (vs := vs) (nn := n) (fun i m nx => ∃ c ws, nx = (D, listOf ws.toArray c) :: news ∧ PAll nw ws ((ps.take i).foldl insP []) ∧ m (Str.ofString "order") = some (.ref D)) rfl (.tail _ hl) F2 N' ⟨0, [], rfl, .nil, rfl⟩ ?turn ?done
  case turn =>
    clear F2 N'
    rintro i v m₁ nx h tk own hv hoff - ⟨c, ws, rfl, hS, hm⟩ F₁ N₁
    have hi : i < ps.length := by rw [← R.length]; exact (List.getElem?_eq_some_iff.mp hv).1
    obtain ⟨v', hv', hP⟩ := R.get hi
    rw [hv] at hv'
    obtain rfl := Option.some.inj hv'
    clear hv'
    obtain ⟨m₂, F₂⟩ := fr_known2 (k1 := Str.ofString "point") (k2 := Str.ofString "order") F₁ rfl hm
    clear F₁ hm
    simp only [List.cons_append] at N₁
    have hD : ∀ p ∈ news ++ own, p.1 ≠ D := by
      intro p hp
      rcases List.mem_append.mp hp with h | h
      · exact Nat.ne_of_lt (l1 p h)
      · exact hoff p h D (by simp)
    have hord := ordr_spec (ps := ps.take i) (hnd.sublist (List.take_sublist _ _))
    have hso := hord.1
    have hlo : (ordr (ps.take i)).length ≤ 100 := by rw [hord.2.2, List.length_take]; omega
    have hS' : PAll nw ws (ordr (ps.take i)) := hS
    clear hS hord
    have fin : ∀ (us : List Value) (c : Nat) (m₅ : Str → Option Value) (h₅ : Heap) (tk₅ : Nat), Fr g' L' h₅ m₅ → News g' L' h₅ ((D, listOf us.toArray c) :: (news ++ own)) → m₅ (Str.ofString "order") = some (.ref D) → PAll nw us (insP (ordr (ps.take i)) ps[i]) →
        InvEndG g' L' (fun m' nx => (l, listOf vs.toArray n) ∈ nx ∧ ∃ c ws, nx = (D, listOf ws.toArray c) :: news ∧ PAll nw ws ((ps.take (i + 1)).foldl insP []) ∧ m' (Str.ofString "order") = some (.ref D)) own { s with heap := h, toks := tk } { s with heap := h₅, toks := tk₅ } := by
      intro us c m₅ h₅ tk₅ F₅ N₅ hm hP
      refine InvEndG.intro (nx := (D, listOf us.toArray c) :: news) F₅ N₅ ⟨.tail _ hl, c, us, rfl, ?_, hm⟩ hoff ?_ ?_
      · rw [List.take_add_one, List.getElem?_eq_getElem hi, List.foldl_append]
        exact hP
      · intro p hp
        rcases List.mem_cons.mp hp with rfl | hp
        · exact .head _
        · exact .tail _ (List.mem_append_left _ hp)
      · exact fun p hp => .tail _ (List.mem_append_right _ hp)
    k_steps
    rename PAll nw _ (insP _ _) => R'
    exact fin _ _ _ _ _ (by assumption) (by assumption) rfl R'
  case done =>
    clear F2 N'
    rintro m₁ nx h tk ⟨c, ws, rfl, hS, hm⟩ F₁ N₁
    rw [R.length, List.take_length] at hS
    obtain ⟨m₂, F₂⟩ := fr_known1 (k := Str.ofString "order") F₁ hm
    clear F₁ hm
    have hS' : PAll nw ws (ordr ps) := hS
    clear hS
    obtain ⟨hso, hmem, hlen⟩ := ordr_spec hnd
    have hlo : (ordr ps).length ≤ 100 := by omega
    have hlw : ws.length ≤ 100 := by rw [hS'.length]; omega
    have hbo : ∀ q ∈ ordr ps, Bd q := fun q hq => bd q ((hmem q).mp hq)
    have hbr : ∀ q ∈ (ordr ps).reverse, Bd q := fun q hq => hbo q (List.mem_reverse.mp hq)
    have hlr : (ordr ps).reverse.length ≤ 100 := by rw [List.length_reverse]; omega
    have hrv := hS'.reverse
    have hl1 := half_len (ordr ps)
    have hl2 := half_len (ordr ps).reverse
    have hl3 : (half (ordr ps)).length ≤ 100 := by omega
    have hl4 : (half (ordr ps).reverse).length ≤ 100 := by omega
    k_steps
    · rename News h₀ L _ _ => kN
      have e : ring ps = ordr ps := by rw [ring, if_pos (by omega)]
      exact hret D ws c _ _ (by assumption) (by assumption) l1 (e ▸ hS')
    · rename News h₀ L _ _ => kN
      rename (∀ p ∈ _ :: _, _ < _) => hlt
      rename PAll nw _ (_ ++ _) => R'
      have e : ring ps = half (ordr ps) ++ half (ordr ps).reverse := by rw [ring, if_neg (by omega)]
      refine hret _ _ 0 _ _ (by assumption) (fun p hp => kN p ?_) (fun q hq => hlt q ?_) (e ▸ R')
      · rcases List.mem_cons.mp hp with rfl | hp
        · exact .head _
        · exact .tail _ (.tail _ (.tail _ (.tail _ (.tail _ hp))))
      · exact .tail _ (.tail _ (.tail _ (.tail _ hq)))
end
end Mine

/- C5 -/
namespace Mine
open PySem PySem.W PyProof.Rows PySem.Calls PySem.Spec
local macro_rules | `(tactic| walk_at $s:str) => `(tactic| k_extra $s)
theorem reset_C5 {prog : Program} {w : World} {A : Around} {env : Env} {Q : Flow → Shared → Prop} {E : Value → Shared → Prop} {s : Shared} (h : Q .next s) : wpAny (model prog w) A (execs [] env) Q E s := by
  k_with_none
  w_top off
  walk1
  exact h
variable {w : World} {loose : List Str} {mean : ExcName → Option Value} {mg mb : Str → Option Value} {dp un : Nat} {gd : Option (List Code)} {cn : Str} {cs : Scope} {a : Addr} {ccd : Value} {cl : List (Str × Addr)} {outer : List Env} {A₀ : Around} {base h₀ : Heap} {L : Addr} {m : Str → Option Value} {news : List (Addr × Obj)} {s : Shared}
  {Q E : Value → Shared → Prop}
section
theorem lines_C5_1 : True := by
  k_with "my sub" => (intro q9 hq9; first | exact hq9 | exact .tail _ hq9 | exact .tail _ (.tail _ hq9) | exact .tail _ (.tail _ (.tail _ hq9)) | exact .tail _ (.tail _ (.tail _ (.tail _ hq9))) | (simp only [List.mem_append, List.mem_cons] at hq9 ⊢; grind))
  k_with "my pall" => first | assumption | exact PAll.mono (by assumption) (by walk_at "my sub")
  k_with "my pin" => first | assumption | exact PIn.mono (by assumption) (by walk_at "my sub")
  k_with "call builtin:len" => (k_here; (with_reducible show wpAny _ _ (call (Value.builtin "len") [Value.ref _]) _ _ _); k_dflt (refine' my_lenP ?k1 ?k2 ?k3 ?k4 ?_; (case k1 => k_asm); (case k2 => k_mem); (case k3 => assumption); (case k4 => omega)); intro _ _; (try dsimp only))
  k_with "subscriptTail" => (k_here; (with_reducible show wpAny _ _ (subscriptTail _ _ (Value.ref _) (Value.int _ _)) _ _ _); first | (refine' my_item ?k1 ?k2 ?k3 ?k4 ?k5 ?k6 ?_ ?k8 ?k9; (case k1 => k_asm); (case k2 => k_mem); (case k3 => assumption); (case k4 => omega); (case k5 => omega); (case k6 => omega); (case k8 => with_unfolding_all rfl); (case k9 => (intro _; with_unfolding_all rfl))) | (refine' my_itemN ?k1 ?k2 ?k3 ?k4 ?k5 ?k6 ?_ ?k8 ?k9; (case k1 => k_asm); (case k2 => k_mem); (case k3 => assumption); (case k4 => omega); (case k5 => omega); (case k6 => omega); (case k8 => with_unfolding_all rfl); (case k9 => (intro _; with_unfolding_all rfl))); intro _ _)
  k_with "compareOp Lt" => (k_here; (with_reducible show wpAny _ _ (compareOp CmpOp.Lt _ _) _ _ _); (refine' my_lt ?k1 ?k2 ?k3 ?k4 ?_; (case k2 => walk_at "my pin"); (case k3 => walk_at "my pin"); (case k1 => k_asm); (case k4 => ktr_units)))
  k_with "compareOp NotEq" => (k_here; (with_reducible show wpAny _ _ (compareOp CmpOp.NotEq _ _) _ _ _); (refine' my_ne ?k1 ?k2 ?k3 ?k4 ?_; (case k2 => walk_at "my pin"); (case k3 => walk_at "my pin"); (case k1 => k_asm); (case k4 => ktr_units)))
  k_with "binaryOp Add ref ref" => (k_here; (with_reducible show wpAny _ _ (binaryOp _ (Value.ref _) (Value.ref _)) _ _ _); k_dflt (refine' my_addP ?k1 ?k2 ?k3 ?k4 ?k7 ?k8 ?k5 ?k6 ?_; (case k1 => k_asm); (case k2 => k_asm); (case k3 => k_mem); (case k4 => k_mem); (case k7 => assumption); (case k8 => walk_at "my pall"); (case k5 => omega); (case k6 => omega)); intro _ _ _ _ _ _ _; (try k_sweep); (try dsimp only))
  k_with "subscriptTail Name Slice ref ref" => (k_here; (with_reducible show wpAny _ _ (subscriptTail _ (PySem.Expr.Slice none none (some _) _) (Value.ref _) (Value.ref _)) _ _ _); k_dflt (refine' my_rev ?k1 ?k2 ?k3 ?k4 ?k5 ?_ ?k8 ?k9; (case k1 => k_asm); (case k2 => k_asm); (case k3 => k_mem); (case k4 => exact IsPart.int _ _); (case k5 => omega); (case k8 => with_unfolding_all rfl); (case k9 => (intro _; with_unfolding_all rfl))); intro _ _ _ _ _; (try k_sweep); (try dsimp only))
  k_with "call ref" => (k_here; (with_reducible show wpAny _ _ (call (Value.ref 53) _) _ _ _); k_dflt (refine' turn_ok ?k1 ?k2 ?k3 ?k4 ?k5 ?k6 ?k7 ?k8 ?k9 ?k10 ?k11 ?k12 ?k13 ?k14 ?_; (case k1 => k_asm); (case k2 => k_asm); (case k3 => k_asm); (case k4 => k_asm); (case k5 => k_asm); (case k6 => first | exact rfl | assumption); (case k7 => ktr_room); (case k8 => ktr_units); (case k9 => walk_at "my pin"); (case k10 => walk_at "my pin"); (case k11 => walk_at "my pin"); (case k12 => walk_at "my bd"); (case k13 => walk_at "my bd"); (case k14 => walk_at "my bd")); intro _ _ _ _ _; (try dsimp only))
  k_with "my bd" => assumption
  k_with "call ref" => (k_here; (with_reducible show wpAny _ _ (call (Value.ref 60) _) _ _ _); k_dflt (refine' half_ok ?k1 ?k2 ?k3 ?k4 ?k5 ?k6 ?k7 ?k8 ?k9 ?k13 ?k10 ?k11 ?k12 ?_; (case k1 => k_asm); (case k2 => k_asm); (case k3 => k_asm); (case k4 => k_asm); (case k5 => k_asm); (case k6 => first | exact rfl | assumption); (case k7 => ktr_room); (case k8 => ktr_units); (case k9 => k_mem); (case k10 => first | assumption | exact PAll.reverse (by assumption)); (case k13 => walk_at "my sub"); (case k11 => walk_at "my bds"); (case k12 => walk_at "my len")); intro _ _ _ _ _ _ _ _ _; (try dsimp only))
  k_with "my bds" => assumption
  k_with "my len" => (simp only [List.length_append, List.length_cons, List.length_nil, List.length_reverse, List.length_map] at *; omega)
  trivial
def within (a b c p : Pt) : Bool := decide (turn a b c ≠ 0) && (decide (0 ≤ turn a b p ∧ 0 ≤ turn b c p ∧ 0 ≤ turn c a p) || decide (turn a b p ≤ 0 ∧ turn b c p ≤ 0 ∧ turn c a p ≤ 0))
theorem within_ok {v1 v2 v3 v4 : Value} {p1 p2 p3 p4 : Pt}
    (B : Below A₀ base outer h₀) (F : Fr h₀ L s.heap m) (X : (hd.heap_39 w.params).In h₀) (N : News h₀ L s.heap news) (T : Top hd.view_39 loose mean mg mb h₀) (hk : cs.kind = .function)
    (hdp : dp + 2 < recursionLimit) (hun : un + 200 < cLine)
    (R1 : PIn news v1 p1) (R2 : PIn news v2 p2) (R3 : PIn news v3 p3) (R4 : PIn news v4 p4) (b1 : Bd p1) (b2 : Bd p2) (b3 : Bd p3) (b4 : Bd p4)
    (hret : ∀ h' tk', Fr h₀ L h' m → News h₀ L h' news → Q (.bool (within p1 p2 p3 p4)) { s with heap := h', toks := tk' }) :
    wpAny (model PySem.Challenge.rw_zz0003_01.row.prog w) (ktrTop dp un gd cn cs L a ccd cl outer) (call (.ref 74) [v1, v2, v3, v4]) Q E s := by
  revert X; k_fill; intro X
  refine wpAny_call ?_
  k_dflt ktr_enter
  k_steps
  · rename News h₀ L _ _ => kN
    have e : within p1 p2 p3 p4 = false := by simp [within, *]
    exact e ▸ hret _ _ (by assumption) (fun p hp => kN p (.tail _ hp))
  · rename News h₀ L _ _ => kN
    rename (_ ∨ _ ∨ _) => ho
    rename (_ ∧ _ ∧ _) => ha
    rename (turn p1 p2 p3 ≠ 0) => hn
    rename (0 ≤ _) => h0
    have e : within p1 p2 p3 p4 = true := by
      simp only [within, Bool.and_eq_true, Bool.or_eq_true, decide_eq_true_eq]
      omega
    rw [decide_eq_true h0]
    exact e ▸ hret _ _ (by assumption) (fun p hp => kN p (.tail _ hp))
  · rename News h₀ L _ _ => kN
    rename Int => M'
    rename (turn p1 p2 p3 ≠ 0) => hn
    rename (turn p1 p2 p4 ≤ _ ∧ _ ∧ _) => ha
    rename (_ ≤ turn p1 p2 p4 ∧ _ ∧ _) => hb
    rename (¬ 0 ≤ _) => h0
    have e : within p1 p2 p3 p4 = decide (M' ≤ 0) := by
      rw [Bool.eq_iff_iff]
      simp only [within, Bool.and_eq_true, Bool.or_eq_true, decide_eq_true_eq]
      omega
    exact e ▸ hret _ _ (by assumption) (fun p hp => kN p (.tail _ hp))
end
end Mine

/- C6a -/
namespace Mine
open PySem PySem.W PyProof.Rows PySem.Calls PySem.Spec
local macro_rules | `(tactic| walk_at $s:str) => `(tactic| k_extra $s)
theorem reset_C6a {prog : Program} {w : World} {A : Around} {env : Env} {Q : Flow → Shared → Prop} {E : Value → Shared → Prop} {s : Shared} (h : Q .next s) : wpAny (model prog w) A (execs [] env) Q E s := by
  k_with_none
  w_top off
  walk1
  exact h
variable {w : World} {loose : List Str} {mean : ExcName → Option Value} {mg mb : Str → Option Value} {dp un : Nat} {gd : Option (List Code)} {cn : Str} {cs : Scope} {a : Addr} {ccd : Value} {cl : List (Str × Addr)} {outer : List Env} {A₀ : Around} {base h₀ : Heap} {L : Addr} {m : Str → Option Value} {news : List (Addr × Obj)} {s : Shared}
  {Q E : Value → Shared → Prop}
section
local macro_rules | `(tactic| k_mem) => `(tactic| first | with_reducible assumption | exact List.Mem.head _ | (refine' List.mem_cons_of_mem _ ?_; k_mem) | (refine' List.mem_append_left _ ?_; k_mem) | (refine' List.mem_append_right _ ?_; k_mem))
theorem lines_C6a_1 : True := by
  k_with "my sub" => (intro q9 hq9; first | exact hq9 | exact .tail _ hq9 | exact .tail _ (.tail _ hq9) | exact .tail _ (.tail _ (.tail _ hq9)) | exact .tail _ (.tail _ (.tail _ (.tail _ hq9))) | (simp only [List.mem_append, List.mem_cons] at hq9 ⊢; grind))
  k_with "my pall" => first | assumption | exact PAll.mono (by assumption) (by walk_at "my sub")
  k_with "my pin" => first | assumption | exact PIn.mono (by assumption) (by walk_at "my sub")
  k_with "call builtin:len" => (k_here; (with_reducible show wpAny _ _ (call (Value.builtin "len") [Value.ref _]) _ _ _); k_dflt (refine' my_lenP ?k1 ?k2 ?k3 ?k4 ?_; (case k1 => k_asm); (case k2 => k_mem); (case k3 => assumption); (case k4 => omega)); intro _ _; (try dsimp only))
  k_with "subscriptTail" => (k_here; (with_reducible show wpAny _ _ (subscriptTail _ _ (Value.ref _) (Value.int _ _)) _ _ _); (refine' my_itemA ?k1 ?k2 ?k3 ?k4 ?k5 ?k6 ?_ ?k8 ?k9; (case k1 => k_asm); (case k2 => k_mem); (case k3 => assumption); (case k4 => omega); (case k5 => omega); (case k6 => omega); (case k8 => with_unfolding_all rfl); (case k9 => (intro _; with_unfolding_all rfl))); intro _ _)
  k_with "compareOp Lt" => (k_here; (with_reducible show wpAny _ _ (compareOp CmpOp.Lt _ _) _ _ _); (refine' my_lt ?k1 ?k2 ?k3 ?k4 ?_; (case k2 => walk_at "my pin"); (case k3 => walk_at "my pin"); (case k1 => k_asm); (case k4 => ktr_units)))
  k_with "compareOp NotEq" => (k_here; (with_reducible show wpAny _ _ (compareOp CmpOp.NotEq _ _) _ _ _); (refine' my_ne ?k1 ?k2 ?k3 ?k4 ?_; (case k2 => walk_at "my pin"); (case k3 => walk_at "my pin"); (case k1 => k_asm); (case k4 => ktr_units)))
  k_with "binaryOp Add ref ref" => (k_here; (with_reducible show wpAny _ _ (binaryOp _ (Value.ref _) (Value.ref _)) _ _ _); k_dflt (refine' my_addP ?k1 ?k2 ?k3 ?k4 ?k7 ?k8 ?k5 ?k6 ?_; (case k1 => k_asm); (case k2 => k_asm); (case k3 => k_mem); (case k4 => k_mem); (case k7 => assumption); (case k8 => walk_at "my pall"); (case k5 => omega); (case k6 => omega)); intro _ _ _ _ _ _ _; (try k_sweep); (try dsimp only))
  k_with "subscriptTail Name Slice ref ref" => (k_here; (with_reducible show wpAny _ _ (subscriptTail _ (PySem.Expr.Slice none none (some _) _) (Value.ref _) (Value.ref _)) _ _ _); k_dflt (refine' my_rev ?k1 ?k2 ?k3 ?k4 ?k5 ?_ ?k8 ?k9; (case k1 => k_asm); (case k2 => k_asm); (case k3 => k_mem); (case k4 => exact IsPart.int _ _); (case k5 => omega); (case k8 => with_unfolding_all rfl); (case k9 => (intro _; with_unfolding_all rfl))); intro _ _ _ _ _; (try k_sweep); (try dsimp only))
  k_with "call ref" => (k_here; (with_reducible show wpAny _ _ (call (Value.ref 53) _) _ _ _); k_dflt (refine' turn_ok ?k1 ?k2 ?k3 ?k4 ?k5 ?k6 ?k7 ?k8 ?k9 ?k10 ?k11 ?k12 ?k13 ?k14 ?_; (case k1 => k_asm); (case k2 => k_asm); (case k3 => k_asm); (case k4 => k_asm); (case k5 => k_asm); (case k6 => first | exact rfl | assumption); (case k7 => ktr_room); (case k8 => ktr_units); (case k9 => walk_at "my pin"); (case k10 => walk_at "my pin"); (case k11 => walk_at "my pin"); (case k12 => walk_at "my bd"); (case k13 => walk_at "my bd"); (case k14 => walk_at "my bd")); intro _ _ _ _ _; (try dsimp only))
  k_with "my bd" => first | assumption | (refine bd_at ?_ ?_ ?_ <;> first | assumption | omega)
  k_with "call ref" => (k_here; (with_reducible show wpAny _ _ (call (Value.ref 60) _) _ _ _); k_dflt (refine' half_ok ?k1 ?k2 ?k3 ?k4 ?k5 ?k6 ?k7 ?k8 ?k9 ?k13 ?k10 ?k11 ?k12 ?_; (case k1 => k_asm); (case k2 => k_asm); (case k3 => k_asm); (case k4 => k_asm); (case k5 => k_asm); (case k6 => first | exact rfl | assumption); (case k7 => ktr_room); (case k8 => ktr_units); (case k9 => k_mem); (case k10 => first | assumption | exact PAll.reverse (by assumption)); (case k13 => walk_at "my sub"); (case k11 => walk_at "my bds"); (case k12 => walk_at "my len")); intro _ _ _ _ _ _ _ _ _; (try dsimp only))
  k_with "my bds" => assumption
  k_with "my len" => (simp only [List.length_append, List.length_cons, List.length_nil, List.length_reverse, List.length_map] at *; omega)
  trivial
def DE (w : World) (od : Obj) : Prop := Obj.IsDictOf (PySem.strKind PySem.Challenge.rw_zz0003_01.row.prog w) od [] ∧ PyProof.V.FlatPairs PyData.str ([] : List (Str × Value)) []
local macro_rules | `(tactic| k_room) => `(tactic| ktr_room)
local macro_rules | `(tactic| walk_at "exec For Tuple Call cons nil") => `(tactic| (k_here; (rename Fr _ _ _ _ => lF'); (rename News _ _ _ _ => lN'); with_unfolding_all ((refine' For_turns lF' ?_); (refine MethodCall_ ?_); (refine ld lF' (by rfl) ?_); (refine getMethod_tab (knd := PySem.strKind _ _) (enc := PyData.str) PySem.F.slot_dict_items PySem.F.type_dict_items (by walk_at "my tab") ?_); (refine callWith_method0 ?_); (refine call_items_tab (knd := PySem.strKind _ _) (enc := PyData.str) (by walk_at "my tab") lF' lN' ?_); intro h' o' hv' F' N'; (replace N' := kti_tail N'); (refine kti_items (knd := PySem.strKind _ _) (enc := PyData.str) (xs := []) (by rfl) F' N' hv' (by walk_at "my tab") (by k_mem) (fun _ _ h => Value.isStrOf_shape h) (by rfl) ?_)); clear lF' lN'; intro i' l1))
theorem lines_C6a_2 : True := by
  k_with "my tab" => exact TabAt.ofNews (by assumption) (by k_mem) (by assumption) (by assumption) (by assumption)
  trivial
theorem acl_ok {d1 d2 : Addr} {o1 o2 : Obj}
    (B : Below A₀ base outer h₀) (F : Fr h₀ L s.heap m) (X : (hd.heap_39 w.params).In h₀) (N : News h₀ L s.heap news) (T : Top hd.view_39 loose mean mg mb h₀) (hk : cs.kind = .function)
    (hdp : dp + 2 < recursionLimit) (hun : un + 200 < cLine)
    (m1 : (d1, o1) ∈ news) (m2 : (d2, o2) ∈ news) (e1 : DE w o1) (e2 : DE w o2) (s1 : (d1 == sysModules) = false) (s2 : (d2 == sysModules) = false)
    (hret : ∀ d o h' tk', Fr h₀ L h' m → News h₀ L h' ((d, o) :: news) → (∀ q ∈ news, q.1 < d) → DE w o → (d == sysModules) = false → Q (.ref d) { s with heap := h', toks := tk' }) :
    wpAny (model PySem.Challenge.rw_zz0003_01.row.prog w) (ktrTop dp un gd cn cs L a ccd cl outer) (call (.ref 28) [.ref d1, .ref d2]) Q E s := by
  revert X; k_fill; intro X
  obtain ⟨e11, e12⟩ := e1
  obtain ⟨e21, e22⟩ := e2
  refine wpAny_call ?_
  k_dflt ktr_enter
  k_steps
  exact hret _ _ _ _ (by assumption) (by assumption) (by assumption) ⟨by assumption, by assumption⟩ (by assumption)
end
end Mine

/- C6 -/
namespace Mine
open PySem PySem.W PyProof.Rows PySem.Calls PySem.Spec
local macro_rules | `(tactic| walk_at $s:str) => `(tactic| k_extra $s)
theorem reset_C6 {prog : Program} {w : World} {A : Around} {env : Env} {Q : Flow → Shared → Prop} {E : Value → Shared → Prop} {s : Shared} (h : Q .next s) : wpAny (model prog w) A (execs [] env) Q E s := by
  k_with_none
  w_top off
  walk1
  exact h
variable {w : World} {loose : List Str} {mean : ExcName → Option Value} {mg mb : Str → Option Value} {dp un : Nat} {gd : Option (List Code)} {cn : Str} {cs : Scope} {a : Addr} {ccd : Value} {cl : List (Str × Addr)} {outer : List Env} {A₀ : Around} {base h₀ : Heap} {L : Addr} {m : Str → Option Value} {news : List (Addr × Obj)} {s : Shared}
  {Q E : Value → Shared → Prop}
section
local macro_rules | `(tactic| k_mem) => `(tactic| first | with_reducible assumption | exact List.Mem.head _ | (refine' List.mem_cons_of_mem _ ?_; k_mem) | (refine' List.mem_append_left _ ?_; k_mem) | (refine' List.mem_append_right _ ?_; k_mem))
local macro_rules | `(tactic| k_room) => `(tactic| ktr_room)
local macro_rules | `(tactic| walk_at "pyIter ref") => `(tactic| refine Stop.of ?_)
theorem lines_C6_1 : True := by
  k_with "my sub" => (intro q9 hq9; first | exact hq9 | exact .tail _ hq9 | exact .tail _ (.tail _ hq9) | exact .tail _ (.tail _ (.tail _ hq9)) | exact .tail _ (.tail _ (.tail _ (.tail _ hq9))) | (simp only [List.mem_append, List.mem_cons] at hq9 ⊢; grind))
  k_with "my pall" => first | assumption | exact PAll.mono (by assumption) (by walk_at "my sub")
  k_with "my pin" => first | assumption | exact PIn.mono (by assumption) (by walk_at "my sub")
  k_with "call builtin:len" => (k_here; (with_reducible show wpAny _ _ (call (Value.builtin "len") [Value.ref _]) _ _ _); k_dflt (refine' my_lenP ?k1 ?k2 ?k3 ?k4 ?_; (case k1 => k_asm); (case k2 => k_mem); (case k3 => assumption); (case k4 => omega)); intro _ _; (try dsimp only))
  k_with "subscriptTail" => (k_here; (with_reducible show wpAny _ _ (subscriptTail _ _ (Value.ref _) (Value.int _ _)) _ _ _); (refine' my_itemA ?k1 ?k2 ?k3 ?k4 ?k5 ?k6 ?_ ?k8 ?k9; (case k1 => k_asm); (case k2 => k_mem); (case k3 => assumption); (case k4 => omega); (case k5 => omega); (case k6 => omega); (case k8 => with_unfolding_all rfl); (case k9 => (intro _; with_unfolding_all rfl))); intro _ _)
  k_with "compareOp Lt" => (k_here; (with_reducible show wpAny _ _ (compareOp CmpOp.Lt _ _) _ _ _); (refine' my_lt ?k1 ?k2 ?k3 ?k4 ?_; (case k2 => walk_at "my pin"); (case k3 => walk_at "my pin"); (case k1 => k_asm); (case k4 => ktr_units)))
  k_with "compareOp NotEq" => (k_here; (with_reducible show wpAny _ _ (compareOp CmpOp.NotEq _ _) _ _ _); (refine' my_ne ?k1 ?k2 ?k3 ?k4 ?_; (case k2 => walk_at "my pin"); (case k3 => walk_at "my pin"); (case k1 => k_asm); (case k4 => ktr_units)))
  k_with "binaryOp Add ref ref" => (k_here; (with_reducible show wpAny _ _ (binaryOp _ (Value.ref _) (Value.ref _)) _ _ _); k_dflt (refine' my_addP ?k1 ?k2 ?k3 ?k4 ?k7 ?k8 ?k5 ?k6 ?_; (case k1 => k_asm); (case k2 => k_asm); (case k3 => k_mem); (case k4 => k_mem); (case k7 => assumption); (case k8 => walk_at "my pall"); (case k5 => omega); (case k6 => omega)); intro _ _ _ _ _ _ _; (try k_sweep); (try dsimp only))
  k_with "subscriptTail Name Slice ref ref" => (k_here; (with_reducible show wpAny _ _ (subscriptTail _ (PySem.Expr.Slice none none (some _) _) (Value.ref _) (Value.ref _)) _ _ _); k_dflt (refine' my_rev ?k1 ?k2 ?k3 ?k4 ?k5 ?_ ?k8 ?k9; (case k1 => k_asm); (case k2 => k_asm); (case k3 => k_mem); (case k4 => exact IsPart.int _ _); (case k5 => omega); (case k8 => with_unfolding_all rfl); (case k9 => (intro _; with_unfolding_all rfl))); intro _ _ _ _ _; (try k_sweep); (try dsimp only))
  k_with "call ref" => (k_here; (with_reducible show wpAny _ _ (call (Value.ref 53) _) _ _ _); k_dflt (refine' turn_ok ?k1 ?k2 ?k3 ?k4 ?k5 ?k6 ?k7 ?k8 ?k9 ?k10 ?k11 ?k12 ?k13 ?k14 ?_; (case k1 => k_asm); (case k2 => k_asm); (case k3 => k_asm); (case k4 => k_asm); (case k5 => k_asm); (case k6 => first | exact rfl | assumption); (case k7 => ktr_room); (case k8 => ktr_units); (case k9 => walk_at "my pin"); (case k10 => walk_at "my pin"); (case k11 => walk_at "my pin"); (case k12 => walk_at "my bd"); (case k13 => walk_at "my bd"); (case k14 => walk_at "my bd")); intro _ _ _ _ _; (try dsimp only))
  k_with "my bd" => first | assumption | (refine bd_at ?_ ?_ ?_ <;> first | assumption | omega)
  k_with "call ref" => (k_here; (with_reducible show wpAny _ _ (call (Value.ref 60) _) _ _ _); k_dflt (refine' half_ok ?k1 ?k2 ?k3 ?k4 ?k5 ?k6 ?k7 ?k8 ?k9 ?k13 ?k10 ?k11 ?k12 ?_; (case k1 => k_asm); (case k2 => k_asm); (case k3 => k_asm); (case k4 => k_asm); (case k5 => k_asm); (case k6 => first | exact rfl | assumption); (case k7 => ktr_room); (case k8 => ktr_units); (case k9 => k_mem); (case k10 => first | assumption | exact PAll.reverse (by assumption)); (case k13 => walk_at "my sub"); (case k11 => walk_at "my bds"); (case k12 => walk_at "my len")); intro _ _ _ _ _ _ _ _ _; (try dsimp only))
  k_with "my bds" => assumption
  k_with "my len" => (simp only [List.length_append, List.length_cons, List.length_nil, List.length_reverse, List.length_map] at *; omega)
  k_with "call ref" => (k_here; (with_reducible show wpAny _ _ (call (Value.ref 28) _) _ _ _); k_dflt (refine' acl_ok ?k1 ?k2 ?k3 ?k4 ?k5 ?k6 ?k7 ?k8 ?k9 ?k10 ?k11 ?k12 ?k13 ?k14 ?_; (case k1 => k_asm); (case k2 => k_asm); (case k3 => k_asm); (case k4 => k_asm); (case k5 => k_asm); (case k6 => first | exact rfl | assumption); (case k7 => ktr_room); (case k8 => ktr_units); (case k9 => k_mem); (case k10 => k_mem); (case k11 => first | assumption | exact ⟨by assumption, by assumption⟩); (case k12 => first | assumption | exact ⟨by assumption, by assumption⟩); (case k13 => assumption); (case k14 => assumption)); intro _ _ _ _ _ _ _ _ _; (try dsimp only))
  trivial
def areaTo (ps : List Pt) (st : Int) : Nat → Int
  | 0 => 0
  | k + 1 => turn (atI ps st) (atI ps ((k : Int) - 1)) (atI ps (k : Int)) + areaTo ps st k
theorem size_end {env : Env} {i n : Nat} {ps : List Pt} {st : Int} {l : Addr} {t0 : Tok} {W' d' : Addr} {o' : Obj} {p1 p2 : Addr × Obj} {nx own : List (Addr × Obj)} {S' a b c : Int} {u1 u2 u3 u4 : Tok} {h₅ h' : Heap} {g : Heap} {tk₅ tk' : Nat} {m' : Str → Option Value}
    (F : Fr g env.locals h' m') (N : News g env.locals h' ((W', ({ cls := .type "tuple", data := .seq #[.int S' u1, .int a u2, .int b u3, .int c u4, .ref d'] n } : Obj)) :: (d', o') :: p1 :: p2 :: (nx ++ own)))
    (hW : ∀ q ∈ own, q.1 < W') (hd : ∀ q ∈ own, q.1 < d') (hoff : OwnOff own (nx.map (·.1))) (hsub : ∀ q ∈ news, q ∈ nx) (e' : DE w o') (lo' : (d' == sysModules) = false)
    (hm1 : m' (Str.ofString "ring") = some (.ref l)) (hm2 : m' (Str.ofString "start") = some (.int st t0)) (hm3 : m' (Str.ofString "whole") = some (.ref W')) (hS : S' = areaTo ps st (i + 1)) :
    InvEndG g env.locals (fun m nx => ∃ (W : Addr) (d : Addr) (od : Obj) (n : Nat) (a b c : Int) (u1 u2 u3 u4 : Tok),
    (∀ q ∈ news, q ∈ nx) ∧ (W, ({ cls := .type "tuple", data := .seq #[.int (areaTo ps st (i + 1)) u1, .int a u2, .int b u3, .int c u4, .ref d] n } : Obj)) ∈ nx ∧ (d, od) ∈ nx ∧
    DE w od ∧ (d == sysModules) = false ∧
    m (Str.ofString "ring") = some (.ref l) ∧ m (Str.ofString "start") = some (.int st t0) ∧ m (Str.ofString "whole") = some (.ref W)) own { s with heap := h₅, toks := tk₅ } { s with heap := h', toks := tk' } := by
  subst hS
  refine inv_end (nx := nx) (new := [(W', ({ cls := .type "tuple", data := .seq #[.int (areaTo ps st (i + 1)) u1, .int a u2, .int b u3, .int c u4, .ref d'] n } : Obj)), (d', o')]) F N ?_ hoff
    ⟨W', d', o', n, a, b, c, u1, u2, u3, u4, fun q hq => .tail _ (.tail _ (hsub q hq)), .head _, .tail _ (.head _), e', lo', hm1, hm2, hm3⟩ ?_
  · intro p hp q hq
    rcases List.mem_cons.mp hp with rfl | hp
    · exact hW q hq
    · rw [List.mem_singleton.mp hp]; exact hd q hq
  · intro p hp
    rcases List.mem_cons.mp hp with rfl | hp
    · exact .head _
    · rcases List.mem_cons.mp hp with rfl | hp
      · exact .tail _ (.head _)
      · exact .tail _ (.tail _ (.tail _ (.tail _ hp)))
theorem size_ok {l n : Nat} {vs : List Value} {ps : List Pt} {st : Int} {t0 : Tok}
    (B : Below A₀ base outer h₀) (F : Fr h₀ L s.heap m) (X : (hd.heap_39 w.params).In h₀) (N : News h₀ L s.heap news) (T : Top hd.view_39 loose mean mg mb h₀) (hk : cs.kind = .function)
    (hdp : dp + 4 < recursionLimit) (hun : un + 400 < cLine)
    (hl : (l, listOf vs.toArray n) ∈ news) (R : PAll news vs ps) (bd : ∀ p ∈ ps, Bd p) (hz : ps.length ≤ 100) (h0 : 0 ≤ st) (h1 : st < ps.length)
    (hret : ∀ h' tk' t, Fr h₀ L h' m → News h₀ L h' news → Q (.int (areaTo ps st ps.length) t) { s with heap := h', toks := tk' }) :
    wpAny (model PySem.Challenge.rw_zz0003_01.row.prog w) (ktrTop dp un gd cn cs L a ccd cl outer) (call (.ref 81) [.ref l, .int st t0]) Q E s := by
  revert X; k_fill; intro X
  refine wpAny_call ?_
  k_dflt ktr_enter
  k_steps
  refine Stop.go ?_
  rename IsRange _ _ _ _ _ _ _ _ => hR
  rename Fr _ _ _ _ => F'
  rename News _ _ _ _ => N'
  rename Obj.IsDictOf (PySem.strKind _ _) _ [] => hs'
  rename PyProof.V.FlatPairs PyData.str [] [] => hf'
  rename (_ == sysModules) = false => lo'
  obtain ⟨m', F2⟩ := fr_known3 (k1 := Str.ofString "ring") (k2 := Str.ofString "start") (k3 := Str.ofString "whole") F' rfl rfl rfl
  clear F'
  refine my_range_iter (n := ps.length) (fun i m nx => ∃ (W : Addr) (d : Addr) (od : Obj) (n : Nat) (a b c : Int) (u1 u2 u3 u4 : Tok),
    (∀ q ∈ news, q ∈ nx) ∧ (W, ({ cls := .type "tuple", data := .seq #[.int (areaTo ps st i) u1, .int a u2, .int b u3, .int c u4, .ref d] n } : Obj)) ∈ nx ∧ (d, od) ∈ nx ∧
    DE w od ∧ (d == sysModules) = false ∧
    m (Str.ofString "ring") = some (.ref l) ∧ m (Str.ofString "start") = some (.int st t0) ∧ m (Str.ofString "whole") = some (.ref W)) rfl hR (by omega) F2 N' ?start ?turn ?done
  case start => exact ⟨_, _, _, _, _, _, _, _, _, _, _, fun q hq => .tail _ (.tail _ hq), .head _, .tail _ (.head _), ⟨hs', hf'⟩, lo', rfl, rfl, rfl⟩
  case turn =>
    clear F2 N' hR hs' hf' lo'
    rintro i t m₁ nx h tk own hi hoff ⟨W, d, od, n5, a, b, c, u1, u2, u3, u4, hsub, hW, hd', hde, lo', hm1, hm2, hm3⟩ F₁ N₁
    obtain ⟨m₂, F₂⟩ := fr_known4 (k1 := Str.ofString "ring") (k2 := Str.ofString "start") (k3 := Str.ofString "whole") (k4 := Str.ofString "k") F₁ hm1 hm2 hm3 rfl
    clear F₁ hm1 hm2 hm3
    have hR2 : PAll (nx ++ own) vs ps := R.mono fun q hq => List.mem_append_left _ (hsub q hq)
    have hl2 : (l, listOf vs.toArray n) ∈ nx := hsub _ hl
    k_steps
    rename DE w _ => e'
    rename (_ == sysModules) = false => lo''
    rename (_ ∧ _ ∧ _ ∧ AllLt _ _) => l2
    rename (∀ q ∈ _ :: _ :: (nx ++ own), _ < _) => l1
    exact size_end (by assumption) (by assumption) (fun q hq => ktn_ltOf l2.2.2.2 q (List.mem_append_right _ hq)) (fun q hq => l1 q (.tail _ (.tail _ (List.mem_append_right _ hq)))) hoff hsub e' lo'' rfl rfl rfl rfl
  case done =>
    clear F2 N' hR hs' hf' lo'
    rintro m₁ nx h tk ⟨W, d, od, n5, a, b, c, u1, u2, u3, u4, hsub, hW, hd', hde, lo', hm1, hm2, hm3⟩ F₁ N₁
    obtain ⟨m₂, F₂⟩ := fr_known1 (k := Str.ofString "whole") F₁ hm3
    clear F₁ hm1 hm2 hm3
    k_steps
    rename News h₀ L _ _ => kN
    exact hret _ _ _ (by assumption) (fun p hp => kN p (hsub p hp))
end
end Mine

/- R7 -/
namespace Mine
open PySem PySem.W PyProof.Rows PySem.Calls PySem.Spec
open PyProof.Rows.LCg (NsObj lst ns_obj lst_snoc fr_but news_but SrcAt range_walks list_st range_st)
section
variable {prog : Program} {w : World} {A : Around} {E : Value → Shared → Prop} {R : Result → Shared → Prop} {s : Shared} {env : Env} {c : PySem.Expr} 
  {h₀ : Heap} {L I C D : Addr} {m m₂ : Str → Option Value} {ys : List Value} {led big : List (Addr × Obj)}
theorem ints_snoc {ys : List Value} {ns : List Int} (h : IntsAre ys ns) (n : Int) (t : Tok) : IntsAre (ys ++ [.int n t]) (ns ++ [n]) := by
  induction h with
  | nil => exact .cons n t .nil
  | cons a b _ ih => exact .cons a b ih
theorem ints_len {ys : List Value} {ns : List Int} (h : IntsAre ys ns) : ys.length = ns.length := by
  induction h with
  | nil => rfl
  | cons a b _ ih => simp [ih]
theorem take_succ_at {α : Type} {ps : List α} {i : Nat} (h : i < ps.length) : ps.take (i + 1) = ps.take i ++ [ps[i]] := by
  rw [List.take_add_one, List.getElem?_eq_getElem h]; rfl
/-- a level that leaves the ledger as it is -/
def Jfix (led : List (Addr × Obj)) (P : Nat → List Value → Prop) : Nat → (Str → Option Value) → List Value → List (Addr × Obj) → Prop := fun i _ ys nx => nx = led ∧ P i ys
theorem tests_nil {Q : Bool → Shared → Prop} (h : Q true s) : wpAny (model prog w) A (testsOf [] env) Q E s := wpAny_pure h
theorem tests_one {Q : Bool → Shared → Prop} (h : wpAny (model prog w) A (isTrue c env (eval c env)) Q E s) : wpAny (model prog w) A (testsOf [c] env) Q E s := by
  simp only [testsOf, List.forIn_cons, List.forIn_nil, if_true]
  exact wpAny_bind (wpAny_bind (wpAny_mono h (fun b s' hb => wpAny_pure (wpAny_pure hb)) fun _ _ x => x))
theorem CEnd.of {oI oC : Obj} {J : (Str → Option Value) → List Value → List (Addr × Obj) → Prop} {h' : Heap} {tk' : Nat} (F : Fr h₀ L h' m) (N : News h₀ L h' big) (hC : NsObj oC m₂)
    (mC : (C, oC) ∈ big) (mD : (D, lst ys) ∈ big) (mI : (I, oI) ∈ big) (hs : ∀ q ∈ led, q ∈ big) (off1 : ∀ p ∈ led, p.1 ≠ C ∧ p.1 ≠ D) (off2 : ∀ p ∈ led, p.1 ≠ I) (ne : C ≠ D) (nI : I ≠ C ∧ I ≠ D) (hJ : J m₂ ys led) :
    CEnd h₀ L C D m I oI J s { s with heap := h', toks := tk' } := by
  refine ⟨h', tk', m₂, ys, led, rfl, ⟨F, oC, hC, fun p hp => ?_, fun p hp => ?_, ne⟩, off2, hJ⟩
  · rcases List.mem_cons.mp hp with rfl | hp
    · exact N _ mC
    · rcases List.mem_cons.mp hp with rfl | hp
      · exact N _ mD
      · rcases List.mem_cons.mp hp with rfl | hp
        · exact N _ mI
        · exact N _ (hs _ hp)
  · rcases List.mem_cons.mp hp with rfl | hp
    · exact nI
    · exact off1 _ hp
theorem CEnd.same {oI oC : Obj} {J : (Str → Option Value) → List Value → List (Addr × Obj) → Prop} {h' : Heap} {tk' : Nat} (F : Fr h₀ L h' m) (N : News h₀ L h' ((C, oC) :: (D, lst ys) :: (I, oI) :: led)) (hC : NsObj oC m₂)
    (off1 : ∀ p ∈ (I, oI) :: led, p.1 ≠ C ∧ p.1 ≠ D) (off2 : ∀ p ∈ led, p.1 ≠ I) (ne : C ≠ D) (hJ : J m₂ ys led) : CEnd h₀ L C D m I oI J s { s with heap := h', toks := tk' } :=
  ⟨h', tk', m₂, ys, led, rfl, ⟨F, oC, hC, N, off1, ne⟩, off2, hJ⟩
theorem CEnd.add1 {oI oC o : Obj} {a : Addr} {J : (Str → Option Value) → List Value → List (Addr × Obj) → Prop} {h' : Heap} {tk' : Nat} (F : Fr h₀ L h' m) (N : News h₀ L h' ((a, o) :: (C, oC) :: (D, lst ys) :: (I, oI) :: led)) (hC : NsObj oC m₂)
    (hCa : C ≠ a) (hDa : D ≠ a) (hIa : I ≠ a) (off1 : ∀ p ∈ (I, oI) :: led, p.1 ≠ C ∧ p.1 ≠ D) (off2 : ∀ p ∈ led, p.1 ≠ I) (ne : C ≠ D) (hJ : J m₂ ys ((a, o) :: led)) : CEnd h₀ L C D m I oI J s { s with heap := h', toks := tk' } := by
  refine ⟨h', tk', m₂, ys, (a, o) :: led, rfl, ⟨F, oC, hC, fun p hp => N p ?_, fun p hp => ?_, ne⟩, fun p hp => ?_, hJ⟩
  · simp only [List.mem_cons] at hp ⊢
    grind
  · rcases List.mem_cons.mp hp with rfl | hp
    · exact off1 _ (.head _)
    · rcases List.mem_cons.mp hp with rfl | hp
      · exact ⟨hCa.symm, hDa.symm⟩
      · exact off1 _ (.tail _ hp)
  · rcases List.mem_cons.mp hp with rfl | hp
    · exact hIa.symm
    · exact off2 _ hp
theorem PAll.val {nw : List (Addr × Obj)} {vs : List Value} {ps : List Pt} {i : Nat} {v : Value} (R : PAll nw vs ps) (hi : i < vs.toArray.size) (hv : vs.toArray[i]? = some v) : ∃ h : i < ps.length, PIn nw v ps[i] := by
  have hi' : i < ps.length := by rw [← R.length]; simpa using hi
  obtain ⟨v', e', hP⟩ := R.get hi'
  have e2 : vs[i]? = some v := by simpa using hv
  obtain rfl := Option.some.inj (e2.symm.trans e')
  exact ⟨hi', hP⟩
theorem flen {α β : Type} (p : α → Bool) (g : α → β) (qs : List α) (i : Nat) : (((qs.take i).filter p).map g).length ≤ qs.length := by
  rw [List.length_map]
  exact Nat.le_trans (List.length_filter_le _ _) (by rw [List.length_take]; exact Nat.min_le_right _ _)
theorem fnext {α β : Type} (p : α → Bool) (g : α → β) (qs : List α) {i : Nat} (hi : i < qs.length) : ((qs.take (i + 1)).filter p).map g = ((qs.take i).filter p).map g ++ (if p qs[i] = true then [g qs[i]] else []) := by
  rw [take_succ_at hi, List.filter_append, List.map_append]
  congr 1
  cases h : p qs[i] <;> simp [h]
theorem fpos {α β : Type} {p : α → Bool} {g : α → β} {qs : List α} {i : Nat} (hi : i < qs.length) (h : p qs[i] = true) : ((qs.take (i + 1)).filter p).map g = ((qs.take i).filter p).map g ++ [g qs[i]] := by rw [fnext p g qs hi, if_pos h]
theorem fneg {α β : Type} {p : α → Bool} {g : α → β} {qs : List α} {i : Nat} (hi : i < qs.length) (h : p qs[i] = false) : ((qs.take (i + 1)).filter p).map g = ((qs.take i).filter p).map g := by rw [fnext p g qs hi, h, if_neg (by decide), List.append_nil]
theorem CS.of {oC : Obj} {h' : Heap} (F : Fr h₀ L h' m) (N : News h₀ L h' big) (hC : NsObj oC m₂) (mC : (C, oC) ∈ big) (mD : (D, lst ys) ∈ big) (hs : ∀ q ∈ led, q ∈ big) (off1 : ∀ p ∈ led, p.1 ≠ C ∧ p.1 ≠ D) (ne : C ≠ D) : CS h₀ L C D m m₂ ys led h' := by
  refine ⟨F, oC, hC, fun p hp => ?_, off1, ne⟩
  rcases List.mem_cons.mp hp with rfl | hp
  · exact N _ mC
  · rcases List.mem_cons.mp hp with rfl | hp
    · exact N _ mD
    · exact N _ (hs _ hp)
end
section
variable {prog : Program} {w : World} {A : Around} {E : Value → Shared → Prop} {R : Result → Shared → Prop} {s : Shared} {elt target iter : PySem.Expr} {ifs : List PySem.Expr} {gens : List Comprehension} {scope : Scope} {pos : Pos} {env : Env} {depth : Nat}
  {h₀ : Heap} {L I C D : Addr} {m m₂ : Str → Option Value} {ys : List Value} {led : List (Addr × Obj)} {cl : List (Str × Addr)}
abbrev StL (I ax : Addr) (vs : List Value) (i : Nat) (h : Heap) : Prop := h.IsListIter I ax i ∧ h.IsList ax vs.toArray
abbrev StR (I : Addr) (b : Nat) (i : Nat) (h : Heap) : Prop := IsRangeIter h I (0 + (i : Nat) * 1) ((b : Int) - (i : Nat)) 1
theorem top_list {ax : Addr} {vs : List Value} {k : Nat} {gs : List Comprehension} {RR : (Str → Option Value) → Shared → Addr → Addr → Result → Shared → Prop} (hh : A.handled = none) (F : Fr h₀ L s.heap m) (N : News h₀ L s.heap led) (hm : (ax, listOf vs.toArray k) ∈ led)
    (h : ∀ I C D h' h₃ tk₃, Lev (prog := prog) (w := w) A h₀ L I [I, ax] vs.toArray.size (fun i v => vs.toArray[i]? = some v) (StL I ax vs) (SrcAt h₀ ax vs.toArray) → StL I ax vs 0 h₃ → CS h₀ L C D m (fun x => ([] : List (Str × Value)).reverse.lookup x) [] led h₃ → (∀ p ∈ led, p.1 ≠ I) → C ≠ I → D ≠ I → C ∉ [I, ax] → D ∉ [I, ax] → s.heap.objs.size ≤ D →
      codeAny (model prog w) A (.compLoop (.ListComp elt (⟨target, iter, ifs, 0⟩ :: gs) scope pos) 0 (.ref I) (.ref D) (compEnvC scope cl C env)) (RR m { s with heap := h' } C D) { s with heap := h₃, toks := tk₃ }) :
    wpAny (model prog w) A (pyIter (.ref ax)) (fun it s₂ => ∃ I m news, it = .ref I ∧ Fr h₀ L s₂.heap m ∧ News h₀ L s₂.heap news ∧
      ∀ C D h₃ tk₃, (∀ b o, s₂.heap.get? b = some o → h₃.get? b = some o) → s₂.heap.objs.size ≤ C → s₂.heap.objs.size ≤ D → CS h₀ L C D m (fun x => ([] : List (Str × Value)).reverse.lookup x) [] news h₃ →
        codeAny (model prog w) A (.compStart (.ListComp elt (⟨target, iter, ifs, 0⟩ :: gs) scope pos) 0 (.ref I) (.ref D) (compEnvC scope cl C env)) (RR m s₂ C D) { s₂ with heap := h₃, toks := tk₃ }) E s := by
  refine iter_list hh F N hm fun I h' V st keep ne lt => ⟨I, m, led, rfl, F.keeps keep, N.grown keep, fun C D h₃ tk₃ k3 hC hD c => ?_⟩
  have hne : ∀ p ∈ led, p.1 ≠ I := fun p hp => ne _ (Heap.lt_size (N p hp).1)
  have hax : ax < h'.objs.size := Heap.lt_size (N.grown keep _ hm).1
  obtain ⟨oI, eI⟩ := V.io _ _ st
  have st' : StL I ax vs 0 h₃ := V.st _ _ _ _ _ st eI (k3 _ _ eI) c.1.keep c.news (.inr ⟨_, hm, rfl, _, rfl⟩)
  have hCI : C ≠ I := Nat.ne_of_gt (Nat.lt_of_lt_of_le lt hC)
  have hDI : D ≠ I := Nat.ne_of_gt (Nat.lt_of_lt_of_le lt hD)
  have hCa : C ≠ ax := Nat.ne_of_gt (Nat.lt_of_lt_of_le hax hC)
  have hDa : D ≠ ax := Nat.ne_of_gt (Nat.lt_of_lt_of_le hax hD)
  have hsD : s.heap.objs.size ≤ D := by
    rcases Nat.lt_or_ge I s.heap.objs.size with q | q
    · exact absurd rfl (ne _ q)
    · exact Nat.le_trans q (Nat.le_of_lt (Nat.lt_of_lt_of_le lt hD))
  exact start_of (by rfl) V.W st' (h I C D h' h₃ tk₃ V st' c hne hCI hDI (by simp [hCI, hCa]) (by simp [hDI, hDa]) hsD)
theorem top_range {r : Addr} {b : Nat} {t u v : Tok} {gs : List Comprehension} {RR : (Str → Option Value) → Shared → Addr → Addr → Result → Shared → Prop} (hh : A.handled = none) (F : Fr h₀ L s.heap m) (N : News h₀ L s.heap led) (hr : IsRange s.heap r 0 (b : Int) 1 t u v) (hb : b ≤ 1000)
    (h : ∀ I C D h' h₃ tk₃, Lev (prog := prog) (w := w) A h₀ L I [I] b (fun i v => ∃ t, v = .int (0 + (i : Int)) t) (StR I b) (fun _ => True) → StR I b 0 h₃ → CS h₀ L C D m (fun x => ([] : List (Str × Value)).reverse.lookup x) [] led h₃ → (∀ p ∈ led, p.1 ≠ I) → C ≠ I → D ≠ I → C ∉ [I] → D ∉ [I] → s.heap.objs.size ≤ D →
      codeAny (model prog w) A (.compLoop (.ListComp elt (⟨target, iter, ifs, 0⟩ :: gs) scope pos) 0 (.ref I) (.ref D) (compEnvC scope cl C env)) (RR m { s with heap := h' } C D) { s with heap := h₃, toks := tk₃ }) :
    wpAny (model prog w) A (pyIter (.ref r)) (fun it s₂ => ∃ I m news, it = .ref I ∧ Fr h₀ L s₂.heap m ∧ News h₀ L s₂.heap news ∧
      ∀ C D h₃ tk₃, (∀ b o, s₂.heap.get? b = some o → h₃.get? b = some o) → s₂.heap.objs.size ≤ C → s₂.heap.objs.size ≤ D → CS h₀ L C D m (fun x => ([] : List (Str × Value)).reverse.lookup x) [] news h₃ →
        codeAny (model prog w) A (.compStart (.ListComp elt (⟨target, iter, ifs, 0⟩ :: gs) scope pos) 0 (.ref I) (.ref D) (compEnvC scope cl C env)) (RR m s₂ C D) { s₂ with heap := h₃, toks := tk₃ }) E s := by
  refine iter_range hh F hr hb fun I h' V st keep ne lt => ⟨I, m, led, rfl, F.keeps keep, N.grown keep, fun C D h₃ tk₃ k3 hC hD c => ?_⟩
  have hne : ∀ p ∈ led, p.1 ≠ I := fun p hp => ne _ (Heap.lt_size (N p hp).1)
  obtain ⟨oI, eI⟩ := V.io _ _ st
  have st' : StR I b 0 h₃ := V.st _ _ _ _ _ st eI (k3 _ _ eI) c.1.keep c.news trivial
  have hCI : C ≠ I := Nat.ne_of_gt (Nat.lt_of_lt_of_le lt hC)
  have hDI : D ≠ I := Nat.ne_of_gt (Nat.lt_of_lt_of_le lt hD)
  have hsD : s.heap.objs.size ≤ D := by
    rcases Nat.lt_or_ge I s.heap.objs.size with q | q
    · exact absurd rfl (ne _ q)
    · exact Nat.le_trans q (Nat.le_of_lt (Nat.lt_of_lt_of_le lt hD))
  exact start_of (by rfl) V.W st' (h I C D h' h₃ tk₃ V st' c hne hCI hDI (by simp [hCI]) (by simp [hDI]) hsD)
/-- an inner clause over a list -/
theorem in_list {ax : Addr} {vs : List Value} {k : Nat} (hg : gens[depth]? = some ⟨target, iter, ifs, 0⟩) (hh : A.handled = none) (c : CS h₀ L C D m m₂ ys led s.heap) (hm : (ax, listOf vs.toArray k) ∈ led)
    (h : ∀ I h', Lev (prog := prog) (w := w) A h₀ L I [I, ax] vs.toArray.size (fun i v => vs.toArray[i]? = some v) (StL I ax vs) (SrcAt h₀ ax vs.toArray) → StL I ax vs 0 h' → CS h₀ L C D m m₂ ys led h' → (∀ p ∈ led, p.1 ≠ I) → C ≠ I → D ≠ I → C ∉ [I, ax] → D ∉ [I, ax] →
      codeAny (model prog w) A (.compLoop (.ListComp elt gens scope pos) depth (.ref I) (.ref D) (compEnvC scope cl C env)) R { s with heap := h' }) :
    wpAny (model prog w) A (pyIter (.ref ax)) (fun it' s₃ => codeAny (model prog w) A (.compStart (.ListComp elt gens scope pos) depth it' (.ref D) (compEnvC scope cl C env)) R s₃) E s := by
  refine iter_list hh c.1 c.news hm fun I h' V st keep ne lt => start_of hg V.W st ?_
  have hCI := ne _ c.ltC
  have hDI := ne _ c.ltD
  obtain ⟨F, oC, hC, N, off, nCD⟩ := c
  have ha := off _ hm
  exact h I h' V st (CS.keeps ⟨F, oC, hC, N, off, nCD⟩ keep) (fun p hp => ne _ (Heap.lt_size (N p (.tail _ (.tail _ hp))).1)) hCI hDI (by simp [hCI, ha.1.symm]) (by simp [hDI, ha.2.symm])
theorem in_range {r : Addr} {b : Nat} {t u v : Tok} (hg : gens[depth]? = some ⟨target, iter, ifs, 0⟩) (hh : A.handled = none) (c : CS h₀ L C D m m₂ ys led s.heap) (hr : IsRange s.heap r 0 (b : Int) 1 t u v) (hb : b ≤ 1000)
    (h : ∀ I h', Lev (prog := prog) (w := w) A h₀ L I [I] b (fun i v => ∃ t, v = .int (0 + (i : Int)) t) (StR I b) (fun _ => True) → StR I b 0 h' → CS h₀ L C D m m₂ ys led h' → (∀ p ∈ led, p.1 ≠ I) → C ≠ I → D ≠ I → C ∉ [I] → D ∉ [I] →
      codeAny (model prog w) A (.compLoop (.ListComp elt gens scope pos) depth (.ref I) (.ref D) (compEnvC scope cl C env)) R { s with heap := h' }) :
    wpAny (model prog w) A (pyIter (.ref r)) (fun it' s₃ => codeAny (model prog w) A (.compStart (.ListComp elt gens scope pos) depth it' (.ref D) (compEnvC scope cl C env)) R s₃) E s := by
  refine iter_range hh c.1 hr hb fun I h' V st keep ne lt => start_of hg V.W st ?_
  have hCI := ne _ c.ltC
  have hDI := ne _ c.ltD
  have hne : ∀ p ∈ led, p.1 ≠ I := fun p hp => ne _ (c.lt p hp)
  exact h I h' V st (c.keeps keep) hne hCI hDI (by simp [hCI]) (by simp [hDI])
end
end Mine

/- R8 -/
namespace Mine
open PySem PySem.W PyProof.Rows PySem.Calls PySem.Spec
/-- a comparison tree: what each road has learnt -/
def addF (i j : Nat) (fs : List (Nat × Nat)) : List (Nat × Nat) :=
  ((i :: (fs.filter (fun p => p.2 == i)).map (·.1)).flatMap fun x => (j :: (fs.filter (fun p => p.1 == j)).map (·.2)).map fun y => (x, y)) ++ fs
def adjF (fs : List (Nat × Nat)) : List Nat → Bool
  | i :: j :: r => fs.contains (i, j) && adjF fs (j :: r)
  | _ => true
def chkT (n : Nat) : KasT (Array Nat) → List (Nat × Nat) → Bool
  | .ret p, fs => p.toList.isPerm (List.range n) && adjF fs p.toList
  | .ask i j k, fs => decide (i < n) && (decide (j < n) && (decide (i ≠ j) && ((fs.contains (j, i) || chkT n (k true) (addF i j fs)) && (fs.contains (i, j) || chkT n (k false) (addF j i fs)))))
theorem chk2 : chkT 2 (kas_sort 2) [] = true := by decide +kernel
theorem chk3 : chkT 3 (kas_sort 3) [] = true := by decide +kernel
theorem chk4 : chkT 4 (kas_sort 4) [] = true := by decide +kernel
theorem chk5 : chkT 5 (kas_sort 5) [] = true := by decide +kernel
theorem chk6 : chkT 6 (kas_sort 6) [] = true := by decide +kernel
theorem addF_mem {lt : Nat → Nat → Bool} (tr : ∀ i j k, lt i j = true → lt j k = true → lt i k = true) {i j : Nat} {fs : List (Nat × Nat)} (h : lt i j = true) (hf : ∀ p ∈ fs, lt p.1 p.2 = true) : ∀ p ∈ addF i j fs, lt p.1 p.2 = true := by
  intro p hp
  rcases List.mem_append.mp hp with hp | hp
  · obtain ⟨x, hx, hp⟩ := List.mem_flatMap.mp hp
    obtain ⟨y, hy, rfl⟩ := List.mem_map.mp hp
    have hx' : x = i ∨ lt x i = true := by
      rcases List.mem_cons.mp hx with rfl | hx
      · exact .inl rfl
      · obtain ⟨q, hq, rfl⟩ := List.mem_map.mp hx
        obtain ⟨q1, q2⟩ := List.mem_filter.mp hq
        have := hf q q1
        rw [eq_of_beq q2] at this
        exact .inr this
    have hy' : y = j ∨ lt j y = true := by
      rcases List.mem_cons.mp hy with rfl | hy
      · exact .inl rfl
      · obtain ⟨q, hq, rfl⟩ := List.mem_map.mp hy
        obtain ⟨q1, q2⟩ := List.mem_filter.mp hq
        have := hf q q1
        rw [eq_of_beq q2] at this
        exact .inr this
    have h1 : lt x j = true := by
      rcases hx' with rfl | hx'
      · exact h
      · exact tr _ _ _ hx' h
    rcases hy' with rfl | hy'
    · exact h1
    · exact tr _ _ _ h1 hy'
  · exact hf p hp
theorem adjF_pair {lt : Nat → Nat → Bool} (tr : ∀ i j k, lt i j = true → lt j k = true → lt i k = true) {fs : List (Nat × Nat)} (hf : ∀ p ∈ fs, lt p.1 p.2 = true) : ∀ l : List Nat, adjF fs l = true → l.Pairwise (fun i j => lt i j = true)
  | [], _ => .nil
  | [_], _ => .cons (by simp) .nil
  | i :: j :: r, h => by
    unfold adjF at h
    rw [Bool.and_eq_true] at h
    have ih := adjF_pair tr hf (j :: r) h.2
    have h1 : lt i j = true := hf (i, j) (List.contains_iff_mem.mp h.1)
    refine .cons (fun x hx => ?_) ih
    rcases List.mem_cons.mp hx with rfl | hx
    · exact h1
    · exact tr _ _ _ h1 ((List.pairwise_cons.mp ih).1 x hx)
theorem chk_wp {n : Nat} {lt : Nat → Nat → Bool} {cmp : Nat → Nat → (Bool → Shared → Prop) → Shared → Prop} {Q : Array Nat → Shared → Prop} {s : Shared}
    (hlt : ∀ i j C, i < n → j < n → C (lt i j) s → cmp i j C s) (tot : ∀ i j, i < n → j < n → i ≠ j → lt i j = false → lt j i = true) (asy : ∀ i j, lt i j = true → lt j i = false)
    (tr : ∀ i j k, lt i j = true → lt j k = true → lt i k = true) (hQ : ∀ p : Array Nat, p.toList.Perm (List.range n) → p.toList.Pairwise (fun i j => lt i j = true) → Q p s) :
    ∀ (t : KasT (Array Nat)) (fs : List (Nat × Nat)), (∀ p ∈ fs, lt p.1 p.2 = true) → chkT n t fs = true → t.kasWp cmp Q s
  | .ret p, fs, hf, h => by
    unfold chkT at h
    rw [Bool.and_eq_true] at h
    exact hQ p (List.isPerm_iff.mp h.1) (adjF_pair tr hf _ h.2)
  | .ask i j k, fs, hf, h => by
    unfold chkT at h
    simp only [Bool.and_eq_true, Bool.or_eq_true, decide_eq_true_eq] at h
    obtain ⟨h1, h2, h3, h4, h5⟩ := h
    refine hlt i j _ h1 h2 ?_
    cases e : lt i j with
    | true =>
      rcases h4 with h4 | h4
      · have := hf _ (List.contains_iff_mem.mp h4)
        rw [asy _ _ e] at this
        cases this
      · exact chk_wp hlt tot asy tr hQ (k true) _ (addF_mem tr e hf) h4
    | false =>
      have e' := tot _ _ h1 h2 h3 e
      rcases h5 with h5 | h5
      · have := hf _ (List.contains_iff_mem.mp h5)
        rw [e] at this
        cases this
      · exact chk_wp hlt tot asy tr hQ (k false) _ (addF_mem tr e' hf) h5
theorem chk_all {n : Nat} (h2 : 2 ≤ n) (h6 : n ≤ 6) : chkT n (kas_sort n) [] = true := by
  obtain rfl | rfl | rfl | rfl | rfl : n = 2 ∨ n = 3 ∨ n = 4 ∨ n = 5 ∨ n = 6 := by omega
  · exact chk2
  · exact chk3
  · exact chk4
  · exact chk5
  · exact chk6
section
variable {prog : Program} {w : World} {A : Around} {E : Value → Shared → Prop} {s : Shared} {h₀ : Heap} {L D : Addr} {m : Str → Option Value} {news nw : List (Addr × Obj)} {us : List Value} {ps : List Pt} {c : Nat} {Q : Value → Shared → Prop}
theorem tup_lt {v1 v2 : Value} {p q : Pt} {C : Bool → Shared → Prop} (N : News h₀ L s.heap news) (hx : PIn news v1 p) (hy : PIn news v2 q) (h : C (pltI p q) s) :
    wpAny (model prog w) A (keyLt' (tuples' true) v1 v2) C (fun _ _ => False) s := by
  obtain ⟨a, n, t, u, rfl, ha⟩ := hx
  obtain ⟨b, k, t', u', rfl, hb⟩ := hy
  refine kat_lt (N _ ha).1 rfl (N _ hb).1 rfl ?_
  refine kat_cons (wpAny_eqBool_int ?_)
  refine kat_go (fun e => kat_yes (kat_cons (wpAny_eqBool_int (kat_go (fun e2 => kat_yes (kat_nil ?_)) (fun e2 => kat_no (kat_one _ _ (lt_int ?_))))))) (fun e => kat_no (oneLt_int ?_))
  · rw [beq_iff_eq] at e e2
    have : pltI p q = false := by simp [pltI, e, e2]
    rw [this] at h
    exact h
  · rw [beq_iff_eq] at e
    have : pltI p q = decide (p.2 < q.2) := by simp [pltI, e]
    rw [this] at h
    first | exact h | exact ⟨_, rfl, h⟩
  · rw [beq_eq_false_iff_ne] at e
    have : pltI p q = decide (p.1 < q.1) := by simp [pltI, e]
    rw [this] at h
    exact h
theorem get_pin {i : Nat} (R : PAll nw us ps) (hi : i < ps.length) : ∃ h : i < us.length, us.getD i Value.none = us[i] ∧ PIn nw (us.getD i Value.none) ps[i] := by
  obtain ⟨v, e, hP⟩ := R.get hi
  have e2 : us.getD i Value.none = v := by rw [List.getD_eq_getElem?_getD, e]; rfl
  have hl : i < us.length := by rw [R.length]; exact hi
  refine ⟨hl, ?_, e2 ▸ hP⟩
  simp [hl]
theorem firsts_of (N : News h₀ L s.heap news) (hs : ∀ q ∈ nw, q ∈ news) (R : PAll nw us ps) : ∃ fs : List Value, KatTups s.heap us fs ∧ fs.length = ps.length ∧ ∀ v ∈ fs, Looks (model prog w) s.heap (typeOf v) (.type "int") := by
  induction R with
  | nil => exact ⟨[], .nil, rfl, fun v hv => nomatch hv⟩
  | cons a _ ih =>
    obtain ⟨fs, h1, h2, h3⟩ := ih
    obtain ⟨x, n, t, u, rfl, hx⟩ := a
    refine ⟨.int _ t :: fs, .cons (N _ (hs _ hx)).1 rfl rfl rfl h1, by simp [h2], fun v hv => ?_⟩
    rcases List.mem_cons.mp hv with rfl | hv
    · exact Looks.now
    · exact h3 v hv
theorem srt_unique {xs ys : List Pt} (hx : xs.Pairwise (fun a b => pltI a b = true)) (hy : ys.Pairwise (fun a b => pltI a b = true)) (h : ∀ q, q ∈ xs ↔ q ∈ ys) : xs = ys := by
  induction xs generalizing ys with
  | nil =>
    cases ys with
    | nil => rfl
    | cons y r => exact absurd ((h y).mpr (.head _)) (by simp)
  | cons x xs ih =>
    cases ys with
    | nil => exact absurd ((h x).mp (.head _)) (by simp)
    | cons y ys =>
      rw [List.pairwise_cons] at hx hy
      have irr : ∀ a : Pt, pltI a a = true → False := fun a ha => by simp [pltI] at ha
      have e : x = y := by
        rcases List.mem_cons.mp ((h x).mp (.head _)) with e | h1
        · exact e
        · rcases List.mem_cons.mp ((h y).mpr (.head _)) with e | h2
          · exact e.symm
          · exact (irr _ (plt_trans (hx.1 _ h2) (hy.1 _ h1))).elim
      subst e
      refine congrArg _ (ih hx.2 hy.2 fun q => ?_)
      constructor
      · intro hq
        rcases List.mem_cons.mp ((h q).mp (.tail _ hq)) with rfl | h1
        · exact (irr _ (hx.1 _ hq)).elim
        · exact h1
      · intro hq
        rcases List.mem_cons.mp ((h q).mpr (.tail _ hq)) with rfl | h1
        · exact (irr _ (hy.1 _ hq)).elim
        · exact h1
theorem plt_asym {a b : Pt} (h : pltI a b = true) : pltI b a = false := by
  simp only [pltI, Bool.or_eq_true, Bool.and_eq_true, decide_eq_true_eq, Bool.or_eq_false_iff, Bool.and_eq_false_iff, decide_eq_false_iff_not] at *
  omega
theorem my_sorted2 (F : Fr h₀ L s.heap m) (N : News h₀ L s.heap news) (hm : (D, listOf us.toArray c) ∈ news) (R : PAll nw us ps) (hs : ∀ q ∈ nw, q ∈ news) (hnd : ps.Nodup) (h2 : 2 ≤ ps.length) (h6 : ps.length ≤ 6)
    (h : ∀ D' ws c' h', Fr h₀ L h' m → News h₀ L h' ((D', listOf ws.toArray c') :: news) → (∀ p ∈ news, p.1 < D') → PAll nw ws (ordr ps) → Q (.ref D') { s with heap := h' }) :
    wpAny (model prog w) A (call (.builtin "sorted") [.ref D]) Q E s := by
  have hl := R.length
  refine kat_sorted F N (my_isList N hm) (by omega) (by omega) fun D' e1 h' F' N' l1 => ?_
  have N2 : News h₀ L h' news := fun p hp => N' p (.tail _ hp)
  obtain ⟨fs, t1, t2, t3⟩ := firsts_of (prog := prog) (w := w) (s := { s with heap := h' }) N2 hs R
  refine kat_kind (s := { s with heap := h' }) t1 (by omega) t3 (by decide) ?_
  show (kas_sort us.length).kasWp (kas_ask prog w A.in1.in1 (tuples' true) us) _ _
  have key : ∀ {i : Nat}, i < ps.length → PIn nw (us.getD i Value.none) (ps.getD i (0, 0)) := fun {i} hi => by
    obtain ⟨_, _, z⟩ := get_pin R hi
    have e : ps.getD i (0, 0) = ps[i] := by simp [hi]
    rw [e]
    exact z
  rw [hl]
  refine chk_wp (n := ps.length) (lt := fun i j => pltI (ps.getD i (0, 0)) (ps.getD j (0, 0))) (fun i j C hi hj hC => ?_) (fun i j hi hj hij e => ?_) (fun i j e => plt_asym e) (fun i j k e1 e2 => plt_trans e1 e2) (fun p hp hs' => ?_) _ [] (fun p hp => nomatch hp) (chk_all h2 h6)
  · exact tup_lt (s := { s with heap := h' }) N2 ((key hi).mono hs) ((key hj).mono hs) hC
  · refine plt_total e fun e' => hij ?_
    have hi' := List.getElem?_eq_getElem hi
    have hj' := List.getElem?_eq_getElem hj
    rw [List.getD_eq_getElem?_getD, List.getD_eq_getElem?_getD, hi', hj', Option.getD_some, Option.getD_some] at e'
    exact (List.getElem_inj hnd).mp e'
  · refine KasFin.intro (s := { s with heap := h' }) F' N' (.head fun q hq => Nat.ne_of_lt (l1 q hq)) fun h'' c'' F'' N'' => h D' _ c'' h'' F'' N'' l1 ?_
    have e : ordr ps = p.toList.map fun i => ps.getD i (0, 0) := by
      obtain ⟨o1, o2, o3⟩ := ordr_spec hnd
      refine srt_unique o1 (List.pairwise_map.mpr hs') fun q => ?_
      rw [o2 q, List.mem_map]
      constructor
      · intro hq
        obtain ⟨i, hi, rfl⟩ := List.getElem_of_mem hq
        exact ⟨i, hp.mem_iff.mpr (List.mem_range.mpr hi), by simp [hi]⟩
      · rintro ⟨i, hi, rfl⟩
        have hi' := List.mem_range.mp (hp.mem_iff.mp hi)
        simp [hi']
    rw [e]
    have go : ∀ l : List Nat, (∀ i ∈ l, i < ps.length) → PAll nw (l.map fun i => us.getD i Value.none) (l.map fun i => ps.getD i (0, 0)) := by
      intro l
      induction l with
      | nil => exact fun _ => .nil
      | cons i r ih => exact fun hl => .cons (key (hl i (.head _))) (ih fun j hj => hl j (.tail _ hj))
    exact go _ fun i hi => List.mem_range.mp (hp.mem_iff.mp hi)
end
end Mine

/- R9 -/
namespace Mine
open PySem PySem.W PyProof.Rows PySem.Calls PySem.Spec
theorem short_zip : ∀ us : List Value, us.length < 2 → (us.toArray.zip us.toArray).map (·.2) = us.toArray
  | [], _ => by simp
  | [x], _ => by simp
section
variable {prog : Program} {w : World} {A : Around} {E : Value → Shared → Prop} {s : Shared} {h₀ : Heap} {L D a : Addr} {m : Str → Option Value} {news nw : List (Addr × Obj)} {us : List Value} {ps : List Pt} {c n : Nat}
/-- list.sort of at most one item -/
theorem short_sort {P : PySem.Fin → Shared → Prop} (F : Fr h₀ L s.heap m) (N : News h₀ L s.heap news) (ho : s.heap.get? a = some (seqObj "list" us.toArray n)) (haL : a ≠ L) (ha0 : h₀.get? a = none) (hna : ∀ p ∈ news, p.1 ≠ a) (hz : us.length < 2)
    (h : ∀ c' h', Fr h₀ L h' m → News h₀ L h' ((a, listOf us.toArray c') :: news) → P (.done (.ret .none)) { s with heap := h' }) :
    wpAny (model prog w) A (Builtin.«list.sort» ⟨[.ref a], []⟩) P E s := by
  have s1 := Heap.SameBut.update s.heap a (Obj.mapSeq fun _ => (#[] : Array Value))
  obtain ⟨e1, ho1⟩ : ∃ e1, (s.heap.update a (Obj.mapSeq fun _ => (#[] : Array Value))).get? a = some (seqObj "list" #[] e1) := ⟨_, get?_update_seq ho fun _ => #[]⟩
  generalize hH : ((s.heap.update a (Obj.mapSeq fun _ => (#[] : Array Value))).push (seqObj "tuple" us.toArray 0)).push (seqObj "list" #[] 0) = H
  have F3 : Fr h₀ L H m := hH ▸ ((kas_fr F s1 haL ha0).push _).push _
  have N3 : News h₀ L H news := hH ▸ (kas_news N s1 hna).grown fun b x e => Heap.get?_push_of_some _ (Heap.get?_push_of_some _ e)
  have ho3 : H.get? a = some (seqObj "list" #[] e1) := hH ▸ Heap.get?_push_of_some _ (Heap.get?_push_of_some _ ho1)
  have s2 := Heap.SameBut.update H a (Obj.mapSeq fun _ => us.toArray)
  obtain ⟨c2, hc2⟩ : ∃ c2, (H.update a (Obj.mapSeq fun _ => us.toArray)).get? a = some (seqObj "list" us.toArray c2) := ⟨_, get?_update_seq ho3 fun _ => us.toArray⟩
  have hn2 : us.toArray.size < 2 := by rw [List.size_toArray]; exact hz
  have hzz := short_zip us hz
  rw [list_sort_plain]
  refine wpAny_bind (listItems_at ho rfl ?_)
  refine wpAny_bind (listUpdate_at ho rfl ?_ (by rw [List.size_toArray, sizeLine_eq]; omega) (Nat.zero_le _))
  refine wpAny_bind (seqEpoch_at ho1 rfl ?_)
  refine wpAny_bind (wpAny_newTuple ?_ (by show us.length ≤ _; rw [sizeLine_eq]; omega))
  refine wpAny_bind (wpAny_newList ?_ (Nat.zero_le _))
  refine wpAny_holding ?_
  show wpAny (model prog w) A _ P E { s with heap := ((s.heap.update a (Obj.mapSeq fun _ => (#[] : Array Value))).push (seqObj "tuple" us.toArray 0)).push (seqObj "list" #[] 0) }
  rw [hH]
  dsimp only
  rw [if_pos hn2, if_pos hn2]
  refine wpAny_bind (wpAny_pure ?_)
  refine wpAny_bind (wpAny_pure (a := ((), SortSt.mk' general' (us.toArray.zip us.toArray) #[] 7 none)) ?_)
  dsimp only
  refine wpAny_bind (seqEpoch_at ho3 rfl ?_)
  have ea : (arrOf (SortSt.mk' general' (us.toArray.zip us.toArray) #[] 7 none)).map (·.2) = us.toArray := hzz
  rw [ea]
  refine wpAny_bind (listUpdate_at ho3 rfl ?_ (Nat.zero_le _) (by rw [List.size_toArray, sizeLine_eq]; omega))
  simp only [bne_self_eq_false, Bool.false_eq_true, if_false]
  refine wpAny_pure (h c2 _ (kas_fr F3 s2 haL ha0) ?_)
  intro p hp
  rcases List.mem_cons.mp hp with rfl | hp
  · exact ⟨hc2, haL, ha0⟩
  · exact kas_news N3 s2 hna p hp
theorem my_sorted1 {Q : Value → Shared → Prop} (F : Fr h₀ L s.heap m) (N : News h₀ L s.heap news) (hm : (D, listOf us.toArray c) ∈ news) (hz : us.length < 2)
    (h : ∀ D' c' h', Fr h₀ L h' m → News h₀ L h' ((D', listOf us.toArray c') :: news) → (∀ p ∈ news, p.1 < D') → Q (.ref D') { s with heap := h' }) :
    wpAny (model prog w) A (call (.builtin "sorted") [.ref D]) Q E s := by
  have hl := my_isList N hm
  refine Calls.call_function_entry kind_sorted plain_sorted entry_sorted (args_sorted1 _) ?_
  unfold Builtin.«sorted»
  refine wpAny_bind (m := checkCount "sorted" 1 1 _) (wpAny_pure ?_)
  refine wpAny_bind (collect_list hl ?_ (by rw [sizeLine_eq]; omega))
  refine wpAny_bind (wpAny_newList ?_ (by rw [sizeLine_eq]; omega))
  generalize hH : ((s.heap.push (seqObj "list" #[] 0)).update s.heap.objs.size (Obj.mapSeq (· ++ us.toArray))).push (seqObj "list" us.toArray 0) = H
  have hsz : ((s.heap.push (seqObj "list" #[] 0)).update s.heap.objs.size (Obj.mapSeq (· ++ us.toArray))).objs.size = s.heap.objs.size + 1 := by
    rw [Heap.size_update, size_push']
  have hoL : H.get? (s.heap.objs.size + 1) = some (seqObj "list" us.toArray 0) := by
    rw [← hH, ← hsz]; exact Heap.get?_push_size _ rfl
  have keep : ∀ b o, s.heap.get? b = some o → H.get? b = some o := fun b o q => by
    have hlt : b < s.heap.objs.size := Heap.lt_size q
    rw [← hH, Heap.get?_push_ne _ _ _ (by rw [hsz]; exact Nat.ne_of_lt (Nat.lt_succ_of_lt hlt)), Heap.get?_update_ne _ _ _ _ (Nat.ne_of_lt hlt), Heap.get?_push_ne _ _ _ (Nat.ne_of_lt hlt)]
    exact q
  have hL : L < s.heap.objs.size := F.ns.lt
  have ltN : ∀ p ∈ news, p.1 < s.heap.objs.size + 1 := fun p hp => Nat.lt_succ_of_lt (Heap.lt_size (N p hp).1)
  show wpAny _ _ _ _ _ { s with heap := H }
  dsimp only
  rw [hsz]
  refine wpAny_bind (wpAny_holding (wpAny_call_entry slot_list_sort ⟨_, hoL, rfl⟩ entry_list_sort ?body (args_list_sort _)))
  case body =>
    refine short_sort (s := { s with heap := H }) (F.kept keep) (N.grown keep) hoL (Nat.ne_of_gt (Nat.lt_succ_of_lt hL)) (Heap.get?_none_of_le (Nat.le_trans F.above (Nat.le_succ_of_le (Nat.le_of_lt hL))))
      (fun p hp => Nat.ne_of_lt (ltN p hp)) hz fun c' h' F' N' => ⟨_, rfl, wpAny_pure ⟨_, rfl, h _ c' h' F' N' ltN⟩⟩
theorem ordr_short {ps : List Pt} (h : ps.length < 2) : ordr ps = ps := by
  match ps, h with
  | [], _ => rfl
  | [p], _ => rfl
end
end Mine

/- R10 -/
namespace Mine
open PySem PySem.W PyProof.Rows PySem.Calls PySem.Spec
def bst (mx : Bool) : Pt → List Pt → Pt
  | b, [] => b
  | b, q :: r => bst mx (if (if mx = true then pltI b q else pltI q b) = true then q else b) r
theorem list_at {nw : List (Addr × Obj)} {vs : List Value} {ps : List Pt} {j : Nat} {v : Value} {q : Pt} {r : List Pt} (R : PAll nw vs ps) (e : ps.drop j = q :: r) (hv : vs.toArray[j]? = some v) : PIn nw v q ∧ ps.drop (j + 1) = r ∧ j < ps.length := by
  have hj : j < ps.length := by
    rcases Nat.lt_or_ge j ps.length with h | h
    · exact h
    · rw [List.drop_eq_nil_of_le h] at e; cases e
  rw [List.drop_eq_getElem_cons hj, List.cons.injEq] at e
  obtain ⟨v', e', hP⟩ := R.get hj
  have e2 : vs[j]? = some v := by simpa using hv
  obtain rfl := Option.some.inj (e2.symm.trans e')
  exact ⟨e.1 ▸ hP, e.2, hj⟩

section
variable {prog : Program} {w : World} {A : Around} {E : Value → Shared → Prop} {R : Result → Shared → Prop} {s : Shared} {h₀ : Heap} {L l I S : Addr} {m : Str → Option Value} {news nw : List (Addr × Obj)} {vs : List Value} {ps : List Pt} {n : Nat}
theorem min_loopP (hh : A.handled = none) (hu : A.units + 64 < cLine) (hm : (l, listOf vs.toArray n) ∈ news) (RP : PAll nw vs ps) (hs : ∀ q ∈ nw, q ∈ news) (hlI : l ≠ I) (hSI : S ≠ I) (hnS : ∀ p ∈ news, p.1 ≠ S) (hnI : ∀ p ∈ news, p.1 ≠ I)
    (hLI : I ≠ L) (hLS : S ≠ L) (hI0 : h₀.get? I = none) (hS0 : h₀.get? S = none) :
    ∀ (qs : List Pt) (j : Nat) (h : Heap) (tk : Nat) (vb : Value) (b : Pt) (c : Nat), ps.drop (j + 1) = qs → j + 1 ≤ ps.length → Fr h₀ L h m → News h₀ L h news → h.get? S = some (seqObj "list" #[vb, vb] c) → h.IsListIter I l (j + 1) → PIn nw vb b →
      (∀ v h' tk', PIn nw v (bst false b qs) → Fr h₀ L h' m → News h₀ L h' news → R (.ok (.ret v)) { s with heap := h', toks := tk' }) →
      codeAny (model prog w) A (.builtin "min.loop" ⟨[.ref I, .none, .ref S], []⟩) R { s with heap := h, toks := tk } := by
  have hname : (toString "min" ++ toString ".loop" : String) = "min.loop" := by decide
  have W := Walks.list (prog := prog) (w := w) (A := A.in1) hh I l hlI vs.toArray
  have hSI' : S ∉ [I] := fun q => hSI (List.mem_singleton.mp q)
  have upF : ∀ {h : Heap} (f : Obj → Obj), Fr h₀ L h m → Fr h₀ L (h.update S f) m := fun f F => kas_fr F (Heap.SameBut.update _ S f) hLS hS0
  have upN : ∀ {h : Heap} (f : Obj → Obj), News h₀ L h news → News h₀ L (h.update S f) news := fun f N => kas_news N (Heap.SameBut.update _ S f) hnS
  intro qs
  induction qs with
  | nil =>
    intro j h tk vb b c he hj F N hS hit hP hR
    have hn : vs.toArray.size = j + 1 := by
      have := congrArg List.length he
      rw [List.length_drop, List.length_nil] at this
      rw [List.size_toArray, RP.length]
      omega
    refine codeAny_builtin PySem.F.entry_min_loop ?_
    rw [Around.under_plainId PySem.F.plain_min_loop _]
    show wpAny _ A.in1 (seqItems? (.ref S) >>= _) _ _ _
    refine wpAny_bind (wpAny_seqItems hS rfl ?_)
    show wpAny _ A.in1 (tryCatch (pyNext (.ref I)) _ >>= _) _ _ _
    refine wpAny_bind (wpAny_tryCatch (W.done _ _ _ ⟨by rw [hn]; exact hit, my_isList N hm⟩ fun h' tk' hk => ?_))
    show wpAny _ A.in1 (updateSeq S (fun _ => #[]) >>= _) _ _ _
    refine wpAny_bind (wpAny_updateSeq (hk S _ hSI' hS) rfl (wpAny_bind (wpAny_letGo (wpAny_pure ?_))))
    exact hR vb _ _ hP (upF _ (kmb_fr F hk hLI hI0)) (upN _ (kmb_news N hk hnI))
  | cons q r ih =>
    intro j h tk vb b c he hj F N hS hit hP hR
    have hlt : j + 1 < vs.toArray.size := by
      have := congrArg List.length he
      rw [List.length_drop, List.length_cons] at this
      rw [List.size_toArray, RP.length]
      omega
    refine codeAny_builtin PySem.F.entry_min_loop ?_
    rw [Around.under_plainId PySem.F.plain_min_loop _]
    show wpAny _ A.in1 (seqItems? (.ref S) >>= _) _ _ _
    refine wpAny_bind (wpAny_seqItems hS rfl ?_)
    show wpAny _ A.in1 (tryCatch (pyNext (.ref I)) _ >>= _) _ _ _
    refine wpAny_bind (wpAny_tryCatch (W.item (j + 1) _ _ _ hlt ⟨hit, my_isList N hm⟩ fun v h' tk' hv hst hk => ?_))
    obtain ⟨hPv, he', hjl⟩ := list_at RP he hv
    have hS' := hk S _ hSI' hS
    have F' := kmb_fr F hk hLI hI0
    have N' := kmb_news N hk hnI
    obtain ⟨av, rfl, pv⟩ := (hPv.mono hs).at (s := { s with heap := h', toks := tk' }) N'
    obtain ⟨ab, rfl, pb⟩ := (hP.mono hs).at (s := { s with heap := h', toks := tk' }) N'
    show wpAny _ A.in1 (tryCatch (holding [.ref av, .ref av] (richCompare .Lt (.ref av) (.ref ab) >>= _)) _ >>= _) _ _ _
    refine wpAny_bind (wpAny_tryCatch (wpAny_holding (wpAny_bind (pair_lt (s := { s with heap := h', toks := tk' }) (by rw [Around.in1_units]; omega) pv pb ?_))))
    refine wpAny_bind (wpAny_holding (wpAny_truthy_bool ?_))
    refine wpAny_bind (wpAny_letGo (wpAny_pure ?_))
    cases hb : pltI q b with
    | true =>
      simp only [if_true]
      refine wpAny_bind (wpAny_updateSeq hS' rfl (wpAny_bind (wpAny_letGo ?_)))
      rw [hname]
      refine wpAny_pure ⟨plainId_quiet PySem.F.plain_min_loop _, ih (j + 1) _ _ _ q _ he' (by omega) (upF _ F') (upN _ N') (get?_update_seq hS' fun _ => #[.ref av, .ref av]) (W.frame _ _ _ hst fun a ha o e => ?_).1 hPv fun v2 h2 tk2 hP2 F2 N2 => hR v2 h2 tk2 ?_ F2 N2⟩
      · refine (Heap.get?_update_other _ _ (fun z : S = a => ?_)).trans e
        subst z
        rcases List.mem_cons.mp ha with z | ha
        · exact hSI z
        · exact hnS _ hm (List.mem_singleton.mp ha).symm
      · rw [bst]; simpa [hb] using hP2
    | false =>
      simp only [Bool.false_eq_true, if_false]
      refine wpAny_bind (wpAny_letGo ?_)
      rw [hname]
      refine wpAny_pure ⟨plainId_quiet PySem.F.plain_min_loop _, ih (j + 1) _ _ _ b _ he' (by omega) F' N' hS' hst.1 hP fun v2 h2 tk2 hP2 F2 N2 => hR v2 h2 tk2 ?_ F2 N2⟩
      rw [bst]; simpa [hb] using hP2
theorem my_min {Q : Value → Shared → Prop} {p : Pt} (hh : A.handled = none) (hu : A.units + 64 < cLine) (F : Fr h₀ L s.heap m) (N : News h₀ L s.heap news) (hm : (l, listOf vs.toArray n) ∈ news) (RP : PAll nw vs (p :: ps)) (hs : ∀ q ∈ nw, q ∈ news)
    (h : ∀ v h' tk', PIn nw v (bst false p ps) → Fr h₀ L h' m → News h₀ L h' news → Q v { s with heap := h', toks := tk' }) :
    wpAny (model prog w) A (call (.builtin "min") [.ref l]) Q E s := by
  have hname : (toString "min" ++ toString ".loop" : String) = "min.loop" := by decide
  have hl := my_isList N hm
  have hlt : l < s.heap.objs.size := Heap.lt_size (N _ hm).1
  have hLs : L < s.heap.objs.size := F.ns.lt
  have W := Walks.list (prog := prog) (w := w) (A := A.in1) hh s.heap.objs.size l (Nat.ne_of_lt hlt) vs.toArray
  refine call_function_tree PySem.F.kind_min PySem.F.plain_min PySem.F.entry_min (PySem.F.args_min1 _) ?_
  show wpAny _ A.in1 (Builtin.Builtins.bindParams "min" ["key", "default"] 0 ⟨[], []⟩ >>= _) _ _ s
  refine wpAny_bind (wpAny_of_eq (show Builtin.Builtins.bindParams "min" ["key", "default"] 0 ⟨[], []⟩ = pure [none, none] from rfl) ?_)
  refine wpAny_bind (wpAny_pure ?_)
  refine wpAny_bind (wpAny_pyIter_list hl ?_)
  have hI0 := next_is_new F
  generalize hI : s.heap.objs.size = I at W hlt hLs hI0 ⊢
  generalize hH1 : s.heap.push _ = H1
  have k1 : ∀ b o, s.heap.get? b = some o → H1.get? b = some o := fun b o e => hH1 ▸ Heap.get?_push_of_some _ e
  have z1 : H1.objs.size = I + 1 := by rw [← hH1, Heap.size_push, hI]
  have i1 : H1.IsListIter I l 0 := by rw [← hH1, ← hI]; exact ⟨_, Heap.get?_push_size _ rfl, rfl, rfl⟩
  have F1 := F.keeps k1
  have N1 := N.grown k1
  refine wpAny_bind (wpAny_newObj_type ?_)
  have hS0 := next_is_new F1
  dsimp only at hS0 ⊢
  rw [z1] at hS0
  rw [hname, z1]
  generalize hH2 : H1.push _ = H2
  have k2 : ∀ b o, H1.get? b = some o → H2.get? b = some o := fun b o e => hH2 ▸ Heap.get?_push_of_some _ e
  have s2 : H2.get? (I + 1) = some (seqObj "list" #[] 0) := by rw [← hH2, ← z1]; exact Heap.get?_push_size (o := seqObj "list" #[] 0) _ rfl
  have F2 := F1.keeps k2
  have N2 := N1.grown k2
  have ltI : ∀ p ∈ news, p.1 < I := fun p hp => hI ▸ Heap.lt_size (N p hp).1
  have hSI' : I + 1 ∉ [I] := fun q => absurd (List.mem_singleton.mp q) (Nat.succ_ne_self I)
  have hnI : ∀ p ∈ news, p.1 ≠ I := fun p hp => Nat.ne_of_lt (ltI p hp)
  have hnS : ∀ p ∈ news, p.1 ≠ I + 1 := fun p hp => Nat.ne_of_lt (Nat.lt_succ_of_lt (ltI p hp))
  refine wpAny_pure ⟨plainId_quiet PySem.F.plain_min_loop _, ?_⟩
  refine codeAny_builtin PySem.F.entry_min_loop ?_
  rw [Around.under_plainId PySem.F.plain_min_loop _]
  show wpAny _ A.in1 (seqItems? (.ref (I + 1)) >>= _) _ _ _
  refine wpAny_bind (wpAny_seqItems s2 rfl ?_)
  show wpAny _ A.in1 (tryCatch (pyNext (.ref I)) _ >>= _) _ _ _
  have hz : 0 < vs.toArray.size := by rw [List.size_toArray, RP.length]; simp
  refine wpAny_bind (wpAny_tryCatch (W.item 0 _ _ _ hz ⟨?_, my_isList N2 hm⟩ fun v h' tk' hv hst hk => ?_))
  · obtain ⟨o, e1, e2⟩ := i1
    exact ⟨o, k2 _ _ e1, e2⟩
  obtain ⟨hPv, he', hjl⟩ := list_at (j := 0) RP rfl hv
  have hS' := hk (I + 1) _ hSI' s2
  have F3 := kmb_fr F2 hk (Nat.ne_of_gt hLs) hI0
  have N3 := kmb_news N2 hk hnI
  show wpAny _ A.in1 (updateSeq (I + 1) (fun _ => #[v, v]) >>= _) _ _ _
  refine wpAny_bind (wpAny_updateSeq hS' rfl ?_)
  rw [hname]
  refine wpAny_pure ⟨plainId_quiet PySem.F.plain_min_loop _, min_loopP (s := s) hh hu hm RP hs (Nat.ne_of_lt hlt) (Nat.succ_ne_self I) hnS hnI (Nat.ne_of_gt hLs) (Nat.ne_of_gt (Nat.lt_succ_of_lt hLs)) hI0 hS0 ps 0 _ _ _ p _ rfl (by simp) (kas_fr F3 (Heap.SameBut.update _ (I + 1) _) (Nat.ne_of_gt (Nat.lt_succ_of_lt hLs)) hS0) (kas_news N3 (Heap.SameBut.update _ (I + 1) _) hnS) (get?_update_seq hS' fun _ => #[v, v]) (W.frame _ _ _ hst fun a ha o e => ?_).1 hPv fun v2 h2 tk2 hP2 F4 N4 => h v2 h2 tk2 hP2 F4 N4⟩
  refine (Heap.get?_update_other _ _ (fun z : I + 1 = a => ?_)).trans e
  subst z
  rcases List.mem_cons.mp ha with z | ha
  · exact absurd z (Nat.succ_ne_self I)
  · exact absurd ((List.mem_singleton.mp ha).symm) (hnS _ hm)
end

section
variable {prog : Program} {w : World} {A : Around} {E : Value → Shared → Prop} {R : Result → Shared → Prop} {s : Shared} {h₀ : Heap} {L l I S : Addr} {m : Str → Option Value} {news nw : List (Addr × Obj)} {vs : List Value} {ps : List Pt} {n : Nat}
theorem max_loopP (hh : A.handled = none) (hu : A.units + 64 < cLine) (hm : (l, listOf vs.toArray n) ∈ news) (RP : PAll nw vs ps) (hs : ∀ q ∈ nw, q ∈ news) (hlI : l ≠ I) (hSI : S ≠ I) (hnS : ∀ p ∈ news, p.1 ≠ S) (hnI : ∀ p ∈ news, p.1 ≠ I)
    (hLI : I ≠ L) (hLS : S ≠ L) (hI0 : h₀.get? I = none) (hS0 : h₀.get? S = none) :
    ∀ (qs : List Pt) (j : Nat) (h : Heap) (tk : Nat) (vb : Value) (b : Pt) (c : Nat), ps.drop (j + 1) = qs → j + 1 ≤ ps.length → Fr h₀ L h m → News h₀ L h news → h.get? S = some (seqObj "list" #[vb, vb] c) → h.IsListIter I l (j + 1) → PIn nw vb b →
      (∀ v h' tk', PIn nw v (bst true b qs) → Fr h₀ L h' m → News h₀ L h' news → R (.ok (.ret v)) { s with heap := h', toks := tk' }) →
      codeAny (model prog w) A (.builtin "max.loop" ⟨[.ref I, .none, .ref S], []⟩) R { s with heap := h, toks := tk } := by
  have hname : (toString "max" ++ toString ".loop" : String) = "max.loop" := by decide
  have W := Walks.list (prog := prog) (w := w) (A := A.in1) hh I l hlI vs.toArray
  have hSI' : S ∉ [I] := fun q => hSI (List.mem_singleton.mp q)
  have upF : ∀ {h : Heap} (f : Obj → Obj), Fr h₀ L h m → Fr h₀ L (h.update S f) m := fun f F => kas_fr F (Heap.SameBut.update _ S f) hLS hS0
  have upN : ∀ {h : Heap} (f : Obj → Obj), News h₀ L h news → News h₀ L (h.update S f) news := fun f N => kas_news N (Heap.SameBut.update _ S f) hnS
  intro qs
  induction qs with
  | nil =>
    intro j h tk vb b c he hj F N hS hit hP hR
    have hn : vs.toArray.size = j + 1 := by
      have := congrArg List.length he
      rw [List.length_drop, List.length_nil] at this
      rw [List.size_toArray, RP.length]
      omega
    refine codeAny_builtin PySem.F.entry_max_loop ?_
    rw [Around.under_plainId PySem.F.plain_max_loop _]
    show wpAny _ A.in1 (seqItems? (.ref S) >>= _) _ _ _
    refine wpAny_bind (wpAny_seqItems hS rfl ?_)
    show wpAny _ A.in1 (tryCatch (pyNext (.ref I)) _ >>= _) _ _ _
    refine wpAny_bind (wpAny_tryCatch (W.done _ _ _ ⟨by rw [hn]; exact hit, my_isList N hm⟩ fun h' tk' hk => ?_))
    show wpAny _ A.in1 (updateSeq S (fun _ => #[]) >>= _) _ _ _
    refine wpAny_bind (wpAny_updateSeq (hk S _ hSI' hS) rfl (wpAny_bind (wpAny_letGo (wpAny_pure ?_))))
    exact hR vb _ _ hP (upF _ (kmb_fr F hk hLI hI0)) (upN _ (kmb_news N hk hnI))
  | cons q r ih =>
    intro j h tk vb b c he hj F N hS hit hP hR
    have hlt : j + 1 < vs.toArray.size := by
      have := congrArg List.length he
      rw [List.length_drop, List.length_cons] at this
      rw [List.size_toArray, RP.length]
      omega
    refine codeAny_builtin PySem.F.entry_max_loop ?_
    rw [Around.under_plainId PySem.F.plain_max_loop _]
    show wpAny _ A.in1 (seqItems? (.ref S) >>= _) _ _ _
    refine wpAny_bind (wpAny_seqItems hS rfl ?_)
    show wpAny _ A.in1 (tryCatch (pyNext (.ref I)) _ >>= _) _ _ _
    refine wpAny_bind (wpAny_tryCatch (W.item (j + 1) _ _ _ hlt ⟨hit, my_isList N hm⟩ fun v h' tk' hv hst hk => ?_))
    obtain ⟨hPv, he', hjl⟩ := list_at RP he hv
    have hS' := hk S _ hSI' hS
    have F' := kmb_fr F hk hLI hI0
    have N' := kmb_news N hk hnI
    obtain ⟨av, rfl, pv⟩ := (hPv.mono hs).at (s := { s with heap := h', toks := tk' }) N'
    obtain ⟨ab, rfl, pb⟩ := (hP.mono hs).at (s := { s with heap := h', toks := tk' }) N'
    show wpAny _ A.in1 (tryCatch (holding [.ref av, .ref av] (richCompare .Gt (.ref av) (.ref ab) >>= _)) _ >>= _) _ _ _
    refine wpAny_bind (wpAny_tryCatch (wpAny_holding (wpAny_bind (pair_gt (s := { s with heap := h', toks := tk' }) (by rw [Around.in1_units]; omega) pv pb ?_))))
    refine wpAny_bind (wpAny_holding (wpAny_truthy_bool ?_))
    refine wpAny_bind (wpAny_letGo (wpAny_pure ?_))
    cases hb : pltI b q with
    | true =>
      simp only [if_true]
      refine wpAny_bind (wpAny_updateSeq hS' rfl (wpAny_bind (wpAny_letGo ?_)))
      rw [hname]
      refine wpAny_pure ⟨plainId_quiet PySem.F.plain_max_loop _, ih (j + 1) _ _ _ q _ he' (by omega) (upF _ F') (upN _ N') (get?_update_seq hS' fun _ => #[.ref av, .ref av]) (W.frame _ _ _ hst fun a ha o e => ?_).1 hPv fun v2 h2 tk2 hP2 F2 N2 => hR v2 h2 tk2 ?_ F2 N2⟩
      · refine (Heap.get?_update_other _ _ (fun z : S = a => ?_)).trans e
        subst z
        rcases List.mem_cons.mp ha with z | ha
        · exact hSI z
        · exact hnS _ hm (List.mem_singleton.mp ha).symm
      · rw [bst]; simpa [hb] using hP2
    | false =>
      simp only [Bool.false_eq_true, if_false]
      refine wpAny_bind (wpAny_letGo ?_)
      rw [hname]
      refine wpAny_pure ⟨plainId_quiet PySem.F.plain_max_loop _, ih (j + 1) _ _ _ b _ he' (by omega) F' N' hS' hst.1 hP fun v2 h2 tk2 hP2 F2 N2 => hR v2 h2 tk2 ?_ F2 N2⟩
      rw [bst]; simpa [hb] using hP2
theorem my_max {Q : Value → Shared → Prop} {p : Pt} (hh : A.handled = none) (hu : A.units + 64 < cLine) (F : Fr h₀ L s.heap m) (N : News h₀ L s.heap news) (hm : (l, listOf vs.toArray n) ∈ news) (RP : PAll nw vs (p :: ps)) (hs : ∀ q ∈ nw, q ∈ news)
    (h : ∀ v h' tk', PIn nw v (bst true p ps) → Fr h₀ L h' m → News h₀ L h' news → Q v { s with heap := h', toks := tk' }) :
    wpAny (model prog w) A (call (.builtin "max") [.ref l]) Q E s := by
  have hname : (toString "max" ++ toString ".loop" : String) = "max.loop" := by decide
  have hl := my_isList N hm
  have hlt : l < s.heap.objs.size := Heap.lt_size (N _ hm).1
  have hLs : L < s.heap.objs.size := F.ns.lt
  have W := Walks.list (prog := prog) (w := w) (A := A.in1) hh s.heap.objs.size l (Nat.ne_of_lt hlt) vs.toArray
  refine call_function_tree PySem.F.kind_max PySem.F.plain_max PySem.F.entry_max (PySem.F.args_max1 _) ?_
  show wpAny _ A.in1 (Builtin.Builtins.bindParams "max" ["key", "default"] 0 ⟨[], []⟩ >>= _) _ _ s
  refine wpAny_bind (wpAny_of_eq (show Builtin.Builtins.bindParams "max" ["key", "default"] 0 ⟨[], []⟩ = pure [none, none] from rfl) ?_)
  refine wpAny_bind (wpAny_pure ?_)
  refine wpAny_bind (wpAny_pyIter_list hl ?_)
  have hI0 := next_is_new F
  generalize hI : s.heap.objs.size = I at W hlt hLs hI0 ⊢
  generalize hH1 : s.heap.push _ = H1
  have k1 : ∀ b o, s.heap.get? b = some o → H1.get? b = some o := fun b o e => hH1 ▸ Heap.get?_push_of_some _ e
  have z1 : H1.objs.size = I + 1 := by rw [← hH1, Heap.size_push, hI]
  have i1 : H1.IsListIter I l 0 := by rw [← hH1, ← hI]; exact ⟨_, Heap.get?_push_size _ rfl, rfl, rfl⟩
  have F1 := F.keeps k1
  have N1 := N.grown k1
  refine wpAny_bind (wpAny_newObj_type ?_)
  have hS0 := next_is_new F1
  dsimp only at hS0 ⊢
  rw [z1] at hS0
  rw [hname, z1]
  generalize hH2 : H1.push _ = H2
  have k2 : ∀ b o, H1.get? b = some o → H2.get? b = some o := fun b o e => hH2 ▸ Heap.get?_push_of_some _ e
  have s2 : H2.get? (I + 1) = some (seqObj "list" #[] 0) := by rw [← hH2, ← z1]; exact Heap.get?_push_size (o := seqObj "list" #[] 0) _ rfl
  have F2 := F1.keeps k2
  have N2 := N1.grown k2
  have ltI : ∀ p ∈ news, p.1 < I := fun p hp => hI ▸ Heap.lt_size (N p hp).1
  have hSI' : I + 1 ∉ [I] := fun q => absurd (List.mem_singleton.mp q) (Nat.succ_ne_self I)
  have hnI : ∀ p ∈ news, p.1 ≠ I := fun p hp => Nat.ne_of_lt (ltI p hp)
  have hnS : ∀ p ∈ news, p.1 ≠ I + 1 := fun p hp => Nat.ne_of_lt (Nat.lt_succ_of_lt (ltI p hp))
  refine wpAny_pure ⟨plainId_quiet PySem.F.plain_max_loop _, ?_⟩
  refine codeAny_builtin PySem.F.entry_max_loop ?_
  rw [Around.under_plainId PySem.F.plain_max_loop _]
  show wpAny _ A.in1 (seqItems? (.ref (I + 1)) >>= _) _ _ _
  refine wpAny_bind (wpAny_seqItems s2 rfl ?_)
  show wpAny _ A.in1 (tryCatch (pyNext (.ref I)) _ >>= _) _ _ _
  have hz : 0 < vs.toArray.size := by rw [List.size_toArray, RP.length]; simp
  refine wpAny_bind (wpAny_tryCatch (W.item 0 _ _ _ hz ⟨?_, my_isList N2 hm⟩ fun v h' tk' hv hst hk => ?_))
  · obtain ⟨o, e1, e2⟩ := i1
    exact ⟨o, k2 _ _ e1, e2⟩
  obtain ⟨hPv, he', hjl⟩ := list_at (j := 0) RP rfl hv
  have hS' := hk (I + 1) _ hSI' s2
  have F3 := kmb_fr F2 hk (Nat.ne_of_gt hLs) hI0
  have N3 := kmb_news N2 hk hnI
  show wpAny _ A.in1 (updateSeq (I + 1) (fun _ => #[v, v]) >>= _) _ _ _
  refine wpAny_bind (wpAny_updateSeq hS' rfl ?_)
  rw [hname]
  refine wpAny_pure ⟨plainId_quiet PySem.F.plain_max_loop _, max_loopP (s := s) hh hu hm RP hs (Nat.ne_of_lt hlt) (Nat.succ_ne_self I) hnS hnI (Nat.ne_of_gt hLs) (Nat.ne_of_gt (Nat.lt_succ_of_lt hLs)) hI0 hS0 ps 0 _ _ _ p _ rfl (by simp) (kas_fr F3 (Heap.SameBut.update _ (I + 1) _) (Nat.ne_of_gt (Nat.lt_succ_of_lt hLs)) hS0) (kas_news N3 (Heap.SameBut.update _ (I + 1) _) hnS) (get?_update_seq hS' fun _ => #[v, v]) (W.frame _ _ _ hst fun a ha o e => ?_).1 hPv fun v2 h2 tk2 hP2 F4 N4 => h v2 h2 tk2 hP2 F4 N4⟩
  refine (Heap.get?_update_other _ _ (fun z : I + 1 = a => ?_)).trans e
  subst z
  rcases List.mem_cons.mp ha with z | ha
  · exact absurd z (Nat.succ_ne_self I)
  · exact absurd ((List.mem_singleton.mp ha).symm) (hnS _ hm)
end
end Mine

/- R11 -/
namespace Mine
open PySem PySem.W PyProof.Rows PySem.Calls PySem.Spec
theorem lk_list_keys : typeLookup (.type "list") "keys" = pure none := by rw [typeLookup_type, builtinLookup_eq_fast]; kernel_rfl
theorem lk_list_getattr : typeLookup (.type "list") "__getattr__" = pure none := by rw [typeLookup_type, builtinLookup_eq_fast]; kernel_rfl
section
variable {prog : Program} {w : World} {A : Around} {E : Value → Shared → Prop} {h : Heap} {g : Array GenState} {d : Drawn} {t : Nat} {os : OsState} {a : Addr} {o : Obj}
theorem attr_own (args : List Value) : ownMembersOf (.type "AttributeError") args = #[unsetMember, unsetMember] := by
  unfold ownMembersOf
  split <;> first | rfl | (rename_i h; revert h; decide) | simp_all
theorem attr_first : ((Manifest.find? "AttributeError").elim false fun t => t.mro.contains "StopIteration" || t.mro.contains "SystemExit") = false := by decide +kernel
theorem attr_sub : isSubtype (.type "AttributeError") (.type "AttributeError") = pure true := by rw [isSubtype_type]; kernel_rfl
theorem note_attr {x name v : Value} {Q : Unit → Shared → Prop} {s : Shared} {e : Addr} (he : s.heap.get? e = some { cls := .type "AttributeError", data := .fields #[v, .none, .none, .none, .bool false, .none, unsetMember, unsetMember] })
    (hq : Q () { s with heap := s.heap.update e (Obj.mapFields fun vs => vs.extract 0 6 ++ #[name, x]) }) : wpAny (model prog w) A (noteAttr (.ref e) x name) Q E s := by
  have hT : s.TypeIs (.ref e) "AttributeError" := ⟨_, he, rfl⟩
  unfold noteAttr
  unfold lacksNameAndObj
  refine wpAny_bind ?_
  refine wpAny_bind (wpAny_isInstance hT attr_sub ?_)
  simp only [Bool.not_true, Bool.false_eq_true, if_false]
  refine wpAny_bind (wpAny_load he ?_)
  refine wpAny_pure ?_
  simp only [if_true]
  refine wpAny_bind (wpAny_rule ?_)
  refine wpAny_bind (wpAny_typeOf hT ?_)
  dsimp only
  unfold layMembers
  refine wpAny_bind (wpAny_load he ?_)
  dsimp only
  exact wpAny_update he hq
theorem attr_raise {α : Type} {x : Value} {msg : Str} {Q : α → Shared → Prop} {s : Shared} (hh : A.handled = none) (hm : msg.length ≤ sizeLine)
    (hq : ∀ h' tk' e ob, (∀ b o, s.heap.get? b = some o → h'.get? b = some o) → h'.get? e = some ob → ob.cls = .type "AttributeError" → E (.ref e) { s with heap := h', toks := tk' }) :
    wpAny (model prog w) A (raiseAttrError x "keys" msg : Sem α) Q E s := by
  unfold raiseAttrError
  refine wpAny_bind (wpAny_mkStr (wpAny_bind ?_) hm)
  unfold newExc newTuple
  refine wpAny_bind (wpAny_newObj_type ?_)
  refine wpAny_bind (m := firstArgMember _ _) (wpAny_of_eq (a := Value.none) (by simp only [firstArgMember, attr_first]; rfl) ?_)
  rw [attr_own]
  refine wpAny_newObj_type ?_
  refine wpAny_bind (wpAny_mkText ?_)
  dsimp only
  generalize hH : s.heap.push { cls := .type "tuple", data := .seq _ } = H
  have k1 : ∀ b o, s.heap.get? b = some o → H.get? b = some o := fun b o q => hH ▸ Heap.get?_push_of_some _ q
  refine wpAny_bind (note_attr (s := { s with heap := H.push _, toks := _ }) (Heap.get?_push_size _ rfl) ?_)
  dsimp only
  have hz : ∀ b o, H.get? b = some o → H.objs.size ≠ b := fun b o q => Nat.ne_of_gt (Heap.lt_size q)
  unfold raiseNew
  refine wpAny_bind (wpAny_handled ?_)
  rw [hh]
  first
    | refine wpAny_throw ?_
    | refine wpAny_bind (wpAny_pure (wpAny_throw ?_))
  refine hq _ _ _ _ (fun b o q => ?_) (Heap.get?_update_self _ (Heap.get?_push_size _ rfl) rfl) rfl
  exact (Heap.get?_update_other _ _ (hz b o (k1 b o q))).trans (Heap.get?_push_of_some _ (k1 b o q))
theorem keys_entry {its : Array Value} {c : Nat} {tk : Tok} {Q : PySem.Fin → Shared → Prop} (hh : A.handled = none) (hx : h.get? a = some (listOf its c))
    (hq : ∀ h' tk' e ob, (∀ b o, h.get? b = some o → h'.get? b = some o) → h'.get? e = some ob → ob.cls = .type "AttributeError" → E (.ref e) ⟨h', g, d, tk', os⟩) :
    wpAny (model prog w) A (Builtin.«object.__getattribute__» ⟨[.ref a, .str "keys" tk], []⟩) Q E ⟨h, g, d, t, os⟩ := by
  have hT : (⟨h, g, d, t, os⟩ : Shared).TypeIs (.ref a) "list" := ⟨_, hx, rfl⟩
  have f4 := lk_list_keys
  repeat (any_goals (first | assumption | wp_step))
  exact attr_raise hh (by rw [sizeLine_eq]; decide +kernel) hq
theorem keys_call {its : Array Value} {c : Nat} {tk : Tok} {R : Result → Shared → Prop} (hh : A.handled = none) (hx : h.get? a = some (listOf its c))
    (hq : ∀ h' tk' e ob, (∀ b o, h.get? b = some o → h'.get? b = some o) → h'.get? e = some ob → ob.cls = .type "AttributeError" → R (.error (.ref e)) ⟨h', g, d, tk', os⟩) :
    codeAny (model prog w) A (.call (.builtin "list.__getattribute__") ⟨[.ref a, .str "keys" tk], []⟩) R ⟨h, g, d, t, os⟩ :=
  codeAny_call_builtin F.slot_list_getattribute.plain F.entry_list_ga (F.slot_list_getattribute.check _ _ _ _ _ _ _ _ (show (⟨h, g, d, t, os⟩ : Shared).TypeIs (.ref a) "list" from ⟨_, hx, rfl⟩) (F.args_list_getattribute_2 _ _) (keys_entry hh hx hq))
theorem keys_by {its : Array Value} {c : Nat} {tk : Tok} {Q : Value → Shared → Prop} (hh : A.handled = none) (hx : h.get? a = some (listOf its c))
    (hq : ∀ h' tk' e ob, (∀ b o, h.get? b = some o → h'.get? b = some o) → h'.get? e = some ob → ob.cls = .type "AttributeError" → E (.ref e) ⟨h', g, d, tk', os⟩) :
    wpAny (model prog w) A (getAttrBy (.ref a) (.str "keys" tk) false) Q E ⟨h, g, d, t, os⟩ := by
  have hT : (⟨h, g, d, t, os⟩ : Shared).TypeIs (.ref a) "list" := ⟨_, hx, rfl⟩
  have f2 := F.slot_list_getattribute.lookup
  have f3 := F.slot_list_getattribute.bind (.ref a)
  have f4 := lk_list_getattr
  repeat (any_goals (first | assumption | wp_step))
  refine keys_call hh hx fun h' tk' e ob k he hc => ?_
  have hTe : (⟨h', g, d, tk', os⟩ : Shared).TypeIs (.ref e) "AttributeError" := ⟨_, he, hc⟩
  have f5 := attr_sub
  have hE := hq h' tk' e ob k he hc
  repeat (any_goals (first | assumption | wp_step))
theorem keys_attr {its : Array Value} {c : Nat} {s : Shared} {Q : Option Value → Shared → Prop} (hh : A.handled = none) (hx : s.heap.get? a = some (listOf its c))
    (hq : ∀ h' tk', (∀ b o, s.heap.get? b = some o → h'.get? b = some o) → Q none { s with heap := h', toks := tk' }) :
    wpAny (model prog w) A (getAttr? (.ref a) "keys") Q E s := by
  unfold getAttr? getAttrBy?
  refine wpAny_bind (wpAny_mkText (wpAny_bind (wpAny_attempt (keys_by hh hx fun h' tk' e ob k he hc => ?_))))
  have hTe : (⟨h', s.gens, s.drawn, tk', s.os⟩ : Shared).TypeIs (.ref e) "AttributeError" := ⟨_, he, hc⟩
  refine wpAny_bind (wpAny_isInstance hTe attr_sub ?_)
  simp only [if_true]
  exact wpAny_pure (hq h' tk' k)
end
end Mine

/- R12 -/
namespace Mine
open PySem PySem.W PyProof.Rows PySem.Calls PySem.Spec
theorem entry_dict_update_loop : entryFor table "dict.update.loop" = some Builtin.«dict.update.loop» := entryFor_of_tree (by kernel_rfl)
theorem plain_dict_update_loop : plainId "dict.update.loop" = true := by decide +kernel
/-- pairs (a pair, 1) -/
inductive KVs (nw : List (Addr × Obj)) : List Value → List Pt → Prop
  | nil : KVs nw [] []
  | cons {a : Addr} {n : Nat} {t : Tok} {kv : Value} {vs : List Value} {p : Pt} {ps : List Pt} : (a, ({ cls := .type "tuple", data := .seq #[kv, .int 1 t] n } : Obj)) ∈ nw → PIn nw kv p → KVs nw vs ps → KVs nw (.ref a :: vs) (p :: ps)
theorem KVs.length {nw : List (Addr × Obj)} {vs : List Value} {ps : List Pt} (h : KVs nw vs ps) : vs.length = ps.length := by
  induction h with
  | nil => rfl
  | cons _ _ _ ih => simp [ih]
theorem KVs.mono {nw nw' : List (Addr × Obj)} {vs : List Value} {ps : List Pt} (h : KVs nw vs ps) (hs : ∀ q ∈ nw, q ∈ nw') : KVs nw' vs ps := by
  induction h with
  | nil => exact .nil
  | cons a b _ ih => exact .cons (hs _ a) (b.mono hs) ih
theorem KVs.append {nw : List (Addr × Obj)} {vs ws : List Value} {ps qs : List Pt} (h : KVs nw vs ps) (k : KVs nw ws qs) : KVs nw (vs ++ ws) (ps ++ qs) := by
  induction h with
  | nil => exact k
  | cons a b _ ih => exact .cons a b ih
theorem kvs_at {nw : List (Addr × Obj)} {vs : List Value} {ps : List Pt} {j : Nat} {v : Value} {q : Pt} {r : List Pt} (R : KVs nw vs ps) (e : ps.drop j = q :: r) (hv : vs.toArray[j]? = some v) :
    ∃ (a : Addr) (n : Nat) (t : Tok) (kv : Value), v = .ref a ∧ (a, ({ cls := .type "tuple", data := .seq #[kv, .int 1 t] n } : Obj)) ∈ nw ∧ PIn nw kv q ∧ ps.drop (j + 1) = r := by
  have hv' : vs[j]? = some v := by simpa using hv
  clear hv
  induction R generalizing j with
  | nil => simp at hv'
  | @cons a n t kv vs p ps h1 h2 h3 ih =>
    cases j with
    | zero =>
      simp only [List.getElem?_cons_zero, Option.some.injEq] at hv'
      simp only [List.drop_zero, List.cons.injEq] at e
      exact ⟨a, n, t, kv, hv'.symm, h1, e.1 ▸ h2, by simpa using e.2⟩
    | succ j =>
      simp only [List.getElem?_cons_succ] at hv'
      simp only [List.drop_succ_cons] at e ⊢
      exact ih e hv'
abbrev pk (p : Pt) : List Int := [p.1, p.2]
abbrev tk2 (prog : Program) (w : World) := tupleKind (intKind prog w)
/-- a dict keyed by pairs, apart from its keys' objects -/
def DC (prog : Program) (w : World) (h : Heap) (d : Addr) (xs : List (List Int × Addr × Value)) : Prop :=
  ∃ o es ep, h.get? d = some o ∧ o.ExactDict ∧ o.data = .dict es ep ∧ es.toList = xs.map (entryOfKey (tk2 prog w)) ∧ (xs.map (·.1)).Nodup
def KX (nw : List (Addr × Obj)) (xs : List (List Int × Addr × Value)) : Prop := ∀ x ∈ xs, ∃ p, x.1 = pk p ∧ PIn nw (.ref x.2.1) p
theorem PIn.key {h₀ h : Heap} {L : Addr} {prog : Program} {w : World} {news nw : List (Addr × Obj)} {a : Addr} {p : Pt} (N : News h₀ L h news) (hs : ∀ q ∈ nw, q ∈ news) (hP : PIn nw (.ref a) p) : (tk2 prog w).is h (pk p) a := by
  obtain ⟨b, n, t, u, e, hb⟩ := hP
  cases e
  exact ⟨_, _, n, (N _ (hs _ hb)).1, rfl, rfl, .cons (intKind_is _ _ _ _) (.cons (intKind_is _ _ _ _) .nil)⟩
theorem DC.toH {prog : Program} {w : World} {h₀ h : Heap} {L d : Addr} {news nw : List (Addr × Obj)} {xs : List (List Int × Addr × Value)} (D : DC prog w h d xs) (K : KX nw xs) (N : News h₀ L h news) (hs : ∀ q ∈ nw, q ∈ news) : h.DictOfH (tk2 prog w) d xs := by
  obtain ⟨o, es, ep, a1, a2, a3, a4, a5⟩ := D
  refine ⟨o, es, ep, a1, a2, a3, a4, fun x hx => ?_, a5⟩
  obtain ⟨p, e, hP⟩ := K x hx
  rw [e]
  exact hP.key N hs
theorem DC.size {prog : Program} {w : World} {h : Heap} {d : Addr} {xs : List (List Int × Addr × Value)} (D : DC prog w h d xs) : ∃ o es ep, h.get? d = some o ∧ o.ExactDict ∧ o.data = .dict es ep ∧ es.size = xs.length := by
  obtain ⟨o, es, ep, a1, a2, a3, a4, a5⟩ := D
  exact ⟨o, es, ep, a1, a2, a3, size_of_entries a4⟩
section
variable {prog : Program} {w : World} {A : Around} {E : Value → Shared → Prop} {R : Result → Shared → Prop} {s : Shared} {h₀ : Heap} {L l I d : Addr} {m : Str → Option Value} {news nw : List (Addr × Obj)} {vs : List Value} {ps : List Pt} {n : Nat}
theorem dict_loop (hh : A.handled = none) (hu : A.units + 64 < cLine) (hm : (l, listOf vs.toArray n) ∈ news) (RP : KVs nw vs ps) (hs : ∀ q ∈ nw, q ∈ news) (hnd : ps.Nodup) (hz : ps.length ≤ 100) (hlI : l ≠ I) (hdI : d ≠ I) (hnd' : ∀ p ∈ news, p.1 ≠ d) (hnI : ∀ p ∈ news, p.1 ≠ I)
    (hLI : I ≠ L) (hLd : d ≠ L) (hI0 : h₀.get? I = none) (hd0 : h₀.get? d = none) :
    ∀ (qs : List Pt) (j : Nat) (h : Heap) (tk : Nat) (xs : List (List Int × Addr × Value)), ps.drop j = qs → j ≤ ps.length → Fr h₀ L h m → News h₀ L h news → DC prog w h d xs → KX nw xs → xs.map (·.1) = (ps.take j).map pk → h.IsListIter I l j →
      (∀ h' tk' xs', DC prog w h' d xs' → xs'.map (·.1) = ps.map pk → Fr h₀ L h' m → News h₀ L h' news → R (.ok (.ret .none)) { s with heap := h', toks := tk' }) →
      codeAny (model prog w) A (.builtin "dict.update.loop" ⟨[.ref d, .ref I, rawInt j, .none], []⟩) R { s with heap := h, toks := tk } := by
  have W := Walks.list (prog := prog) (w := w) (A := A.in1) hh I l hlI vs.toArray
  have hdI' : d ∉ [I] := fun q => hdI (List.mem_singleton.mp q)
  intro qs
  induction qs with
  | nil =>
    intro j h tk xs he hj F N hD hK hx hit hR
    have hn : vs.toArray.size = j := by
      have := congrArg List.length he
      rw [List.length_drop, List.length_nil] at this
      rw [List.size_toArray, RP.length]
      omega
    refine codeAny_builtin entry_dict_update_loop ?_
    rw [Around.under_plainId plain_dict_update_loop _]
    show wpAny _ A.in1 (pyNext (.ref I) >>= _) _ _ _
    refine wpAny_bind (W.done _ _ _ ⟨by rw [hn]; exact hit, my_isList N hm⟩ fun h' tk' hk => ?_)
    show wpAny _ A.in1 (Builtin.Dict.addKeywords d [] >>= _) _ _ _
    refine wpAny_bind (wpAny_pure (wpAny_pure ?_))
    obtain ⟨o, es, ep, a1, a2⟩ := hD
    refine hR h' _ xs ⟨o, es, ep, hk _ _ hdI' a1, a2⟩ ?_ (kmb_fr F hk hLI hI0) (kmb_news N hk hnI)
    rw [hx, List.take_of_length_le]
    have := congrArg List.length he
    rw [List.length_drop, List.length_nil] at this
    omega
  | cons q r ih =>
    intro j h tk xs he hj F N hD hK hx hit hR
    have hlt : j < vs.toArray.size := by
      have := congrArg List.length he
      rw [List.length_drop, List.length_cons] at this
      rw [List.size_toArray, RP.length]
      omega
    refine codeAny_builtin entry_dict_update_loop ?_
    rw [Around.under_plainId plain_dict_update_loop _]
    show wpAny _ A.in1 (pyNext (.ref I) >>= _) _ _ _
    refine wpAny_bind (W.item j _ _ _ hlt ⟨hit, my_isList N hm⟩ fun v h' tk' hv hst hk => ?_)
    obtain ⟨a, k, t, kv, rfl, ha, hP, he'⟩ := kvs_at RP he hv
    have F' := kmb_fr F hk hLI hI0
    have N' := kmb_news N hk hnI
    have hT : ({ s with heap := h', toks := tk' } : Shared).TypeIs (.ref a) "tuple" := ⟨_, (N' _ (hs _ ha)).1, rfl⟩
    refine wpAny_bind (wpAny_holding (wpAny_bind (wpAny_tryCatch ?_)))
    unfold Builtin.Dict.pairItems
    refine wpAny_bind (wpAny_typeOf hT ?_)
    rw [if_pos (by decide)]
    refine wpAny_bind (wpAny_seqItems (N' _ (hs _ ha)).1 rfl (wpAny_pure ?_))
    show wpAny _ A.in1 (holding [kv, .int 1 t] (dictSet d kv (.int 1 t))) _ _ _
    obtain ⟨o, es, ep, a1, a2⟩ := hD
    have hD' : DC prog w h' d xs := ⟨o, es, ep, hk _ _ hdI' a1, a2⟩
    have hlen : xs.length = j := by
      have := congrArg List.length hx
      rw [List.length_map, List.length_map, List.length_take] at this
      omega
    have hjl : j < ps.length := by
      have := congrArg List.length he
      rw [List.length_drop, List.length_cons] at this
      omega
    have hq : q = ps[j] := by
      rw [List.drop_eq_getElem_cons hjl] at he
      exact (List.cons.inj he).1.symm
    have hnew : ∀ x ∈ xs, x.1 ≠ pk q := by
      intro x hx' e
      have : x.1 ∈ (ps.take j).map pk := hx ▸ List.mem_map.mpr ⟨x, hx', rfl⟩
      obtain ⟨p, hp, e2⟩ := List.mem_map.mp this
      rw [e] at e2
      have e3 : p = q := by
        obtain ⟨p1, p2⟩ := p
        obtain ⟨q1, q2⟩ := q
        simp only [pk, List.cons.injEq, and_true] at e2
        rw [e2.1, e2.2]
      rw [e3, hq] at hp
      obtain ⟨i, hi, e4⟩ := List.getElem_of_mem hp
      rw [List.length_take] at hi
      rw [List.getElem_take] at e4
      have := (List.getElem_inj hnd).mp e4
      omega
    have hat : atKey xs (pk q) = none := by
      unfold atKey
      rw [List.find?_eq_none.mpr fun x hx' => by simpa using hnew x hx']
      rfl
    obtain ⟨av, nv, tv, uv, rfl, hv'⟩ := id hP
    refine wpAny_holding (wpAny_dictSet_heap (s := { s with heap := h', toks := tk' }) (hsz := by rw [hlen, sizeLine_eq]; omega) (knd := tk2 prog w) (by show A.in1.units < cLine; rw [Around.in1_units]; omega) (hP.key N' hs) (hD'.toH hK N' hs) fun h2 hD2 hs2 => ?_)
    rw [storedH_new hat] at hD2
    have e5 : ((j : Int) + 1) = ((j + 1 : Nat) : Int) := by omega
    rw [e5]
    obtain ⟨o2, es2, ep2, b1, b2, b3, b4, b5, b6⟩ := hD2
    refine wpAny_pure ⟨plainId_quiet plain_dict_update_loop _, ih (j + 1) h2 _ (xs ++ [(pk q, av, .int 1 t)]) he' (by omega) (F'.change hs2 hLd hd0) (kas_news N' hs2 hnd') ⟨o2, es2, ep2, b1, b2, b3, b4, b6⟩ ?_ ?_ ?_ hR⟩
    · intro x hx'
      rcases List.mem_append.mp hx' with hx' | hx'
      · exact hK x hx'
      · rw [List.mem_singleton.mp hx']; exact ⟨q, rfl, hP⟩
    · rw [List.map_append, hx, take_succ_at hjl, List.map_append, hq]; rfl
    · obtain ⟨oI, c1, c2⟩ := hst.1
      exact ⟨oI, (hs2.2 I (Ne.symm hdI)).trans c1, c2⟩
theorem my_dict {Q : Value → Shared → Prop} (hbig : sysModules < h₀.objs.size) (hh : A.handled = none) (hu : A.units + 100 < cLine) (F : Fr h₀ L s.heap m) (N : News h₀ L s.heap news) (hm : (l, listOf vs.toArray n) ∈ news) (RP : KVs nw vs ps) (hs : ∀ q ∈ nw, q ∈ news) (hnd : ps.Nodup) (hz : ps.length ≤ 100)
    (h : ∀ d o h' tk' xs, DC prog w h' d xs → xs.length = ps.length → (d == sysModules) = false → Fr h₀ L h' m → News h₀ L h' ((d, o) :: news) → (∀ p ∈ news, p.1 < d) → Q (.ref d) { s with heap := h', toks := tk' }) :
    wpAny (model prog w) A (call (.type "dict") [.ref l]) Q E s := by
  refine callType_codes (Q₁ := fun obj s₁ => obj = .ref s.heap.objs.size ∧ s₁ = { s with heap := s.heap.push { cls := .type "dict", data := .dict #[] } }) PySem.F.kt_called_dict (PySem.F.kt_typeCall_dict_1 _) PySem.F.entry_dict_init (kt_code_dict_new _ ⟨rfl, rfl⟩) ?_
  rintro obj s₁ ⟨rfl, rfl⟩
  have hnew : (s.heap.push { cls := .type "dict", data := .dict #[] }).DictOf (intKind prog w) s.heap.objs.size [] := Heap.DictOf.new s.heap
  refine ⟨hnew.typeIs, PySem.F.args_dict_init_2 _ _, ?_⟩
  have k1 : ∀ b o, s.heap.get? b = some o → (s.heap.push { cls := .type "dict", data := .dict #[] }).get? b = some o := fun b o e => Heap.get?_push_of_some _ e
  have hlt : l < s.heap.objs.size := Heap.lt_size (N _ hm).1
  have hL : L < s.heap.objs.size := F.ns.lt
  have hd0 := next_is_new F
  unfold Builtin.«dict.__init__»
  refine wpAny_bind ?_
  unfold Builtin.Dict.selfAndRest
  refine wpAny_bind (wpAny_notOrdered_dict hnew.typeIs ?_)
  show wpAny _ _ (pure (s.heap.objs.size, [Value.ref l])) _ _ _
  refine wpAny_pure ?_
  show wpAny _ _ (Builtin.Dict.updateFrom "dict.__init__" s.heap.objs.size (.ref l) [] .none) _ _ _
  unfold Builtin.Dict.updateFrom
  have hT : ({ s with heap := s.heap.push { cls := .type "dict", data := .dict #[] } } : Shared).TypeIs (.ref l) "list" := ⟨_, k1 _ _ (N _ hm).1, rfl⟩
  refine wpAny_bind (wpAny_typeOf hT ?_)
  rw [if_pos (by decide)]
  refine wpAny_bind (keys_attr hh (k1 _ _ (N _ hm).1) fun h1 tk1 k2 => ?_)
  simp only [Option.isNone_none, if_true]
  have F1 : Fr h₀ L h1 m := (F.keeps k1).keeps k2
  have N1 : News h₀ L h1 news := (N.grown k1).grown k2
  refine wpAny_bind (wpAny_rule (wpAny_bind (wpAny_pyIter_list (my_isList (s := { s with heap := h1, toks := tk1 }) N1 hm) ?_)))
  have e0 : h1.get? s.heap.objs.size = some { cls := .type "dict", data := .dict #[] } := k2 _ _ (Heap.get?_push_size _ rfl)
  have hI0 := next_is_new F1
  generalize hI : h1.objs.size = I at hI0 ⊢
  dsimp only
  generalize hH2 : h1.push _ = H2
  have k3 : ∀ b o, h1.get? b = some o → H2.get? b = some o := fun b o e => hH2 ▸ Heap.get?_push_of_some _ e
  have ltI : ∀ {b : Nat} {o : Obj}, h1.get? b = some o → b ≠ I := fun e => hI ▸ Nat.ne_of_lt (Heap.lt_size e)
  have i1 : H2.IsListIter I l 0 := by rw [← hH2, ← hI]; exact ⟨_, Heap.get?_push_size _ rfl, rfl, rfl⟩
  have hLs : L < h1.objs.size := F1.ns.lt
  refine wpAny_pure ⟨plainId_quiet plain_dict_update_loop _, dict_loop (s := s) (A := A.in1) (nw := nw) hh (by rw [Around.in1_units]; omega) hm RP hs hnd hz (ltI (N1 _ hm).1) (ltI e0) (fun p hp => Nat.ne_of_lt (Heap.lt_size (N p hp).1)) (fun p hp => ltI (N1 p hp).1) (hI ▸ Nat.ne_of_gt hLs) (Nat.ne_of_gt hL) hI0 hd0
    ps 0 H2 _ [] rfl (Nat.zero_le _) (F1.keeps k3) (N1.grown k3) ⟨_, #[], 0, k3 _ _ e0, ⟨rfl, rfl, rfl⟩, rfl, rfl, List.nodup_nil⟩ (fun x hx => nomatch hx) rfl i1 fun h' tk' xs' hD hx F' N' => ⟨rfl, ?_⟩⟩
  obtain ⟨o, es, ep, a1, a2⟩ := id hD
  refine h _ o h' tk' xs' hD ?_ (F.notModules hbig) F' (fun p hp => ?_) fun p hp => Heap.lt_size (N p hp).1
  · have := congrArg List.length hx
    simpa using this
  · rcases List.mem_cons.mp hp with rfl | hp
    · exact ⟨a1, Nat.ne_of_gt hL, hd0⟩
    · exact N' p hp
theorem my_dlen {Q : Value → Shared → Prop} {xs : List (List Int × Addr × Value)} (lo : (d == sysModules) = false) (hD : DC prog w s.heap d xs) (hz : xs.length ≤ 100) (h : ∀ t tk, Q (.int (xs.length : Int) t) { s with toks := tk }) :
    wpAny (model prog w) A (call (.builtin "len") [.ref d]) Q E s := by
  obtain ⟨o, es, ep, a1, a2, a3, a4⟩ := hD.size
  have hT : s.TypeIs (.ref d) "dict" := ⟨o, a1, a2.1⟩
  have md : MeetsIn prog w (Builtin.«dict.__len__» ⟨[.ref d], []⟩) (fun _ R s => (∃ o es ep, s.heap.get? d = some o ∧ o.ExactDict ∧ o.data = .dict es ep ∧ es.size = xs.length) ∧ R (.ok (.ret (.int xs.length s.toks))) { s with toks := s.toks + 1 }) :=
    .of_wp fun A R s ⟨⟨o, es, ep, ho, hc, hdat, hz⟩, h⟩ => by
      show wpAny _ _ (dictSize d >>= _) _ _ s
      unfold dictSize
      refine wpAny_bind (wpAny_bind (wpAny_dictEntries ho hdat (wpAny_pure ?_)))
      show wpAny _ _ (Builtin.Dict.pendingCount d >>= _) _ _ s
      refine wpAny_bind (wpAny_pendingCount_other lo ?_)
      refine wpAny_ret_mkInt ?_
      rw [Nat.add_zero, hz]; exact h
  refine Calls.call_function_entry kind_len plain_len entry_len (args_len1 _) ?_
  unfold Builtin.«len»
  refine wpAny_bind (m := oneArg "len" _) (wpAny_pure ?_)
  refine wpAny_bind (m := callSpecial? (.ref d) (Str.ofString "__len__")) (wpAny_callSpecial?_slot (name := Str.ofString "__len__") hT PySem.F.slot_dict_len
    (call_meetsIn PySem.F.slot_dict_len hT PySem.F.entry_dict_len (PySem.F.args_dict_len_1 _) md ⟨⟨o, es, ep, a1, a2, a3, a4⟩, ?_⟩))
  show wpAny _ _ _ _ _ { s with toks := s.toks + 1 }
  refine wpAny_bind (wpAny_holding (wpAny_pure ?_))
  refine wpAny_bind (wpAny_letGo ?_)
  show wpAny _ _ (if ((xs.length : Nat) : Int) < 0 then _ else _) _ _ _
  rw [if_neg (by omega)]
  show wpAny _ _ (if ((xs.length : Nat) : Int) ≥ 2 ^ 63 then _ else _) _ _ _
  rw [if_neg (by omega)]
  exact wpAny_bind (wpAny_mkInt (wpAny_pure ⟨_, rfl, h _ _⟩))
end
end Mine

/- R13 -/
namespace Mine
open PySem PySem.W PyProof.Rows PySem.Calls PySem.Spec
section
variable {prog : Program} {w : World} {A : Around} {R : Result → Shared → Prop} {s : Shared} {x : Str} {px : Pos} {body : List Stmt} {env : Env} {I : Addr} {fp wr : List Addr} {n : Nat} {P : Nat → Value → Prop} {St : Nat → Heap → Prop}
/-- a for loop whose name is a cell (or what else a store's rule covers) -/
theorem cell_for (Φ : Nat → Heap → Prop) (Ψ : Nat → Value → Heap → Prop) (W : Walks prog w A I fp [I] n P St) (hst : St 0 s.heap) (h0 : Φ 0 s.heap)
    (pre : ∀ i h h', Φ i h → (∀ b o, b ∉ [I] → h.get? b = some o → h'.get? b = some o) → Φ i h')
    (store : ∀ i v h tk (Q : Unit → Shared → Prop) (E : Value → Shared → Prop), i < n → P i v → St (i + 1) h → Φ i h → (∀ h' tk', Ψ i v h' → Q () { s with heap := h', toks := tk' }) → wpAny (model prog w) A (storeName env x v) Q E { s with heap := h, toks := tk })
    (turn : ∀ i v h tk (E : Value → Shared → Prop), i < n → P i v → Ψ i v h → wpAny (model prog w) A (execs body env) (fun f s' => match f with
      | .next | .cont => ∃ h' tk', s' = { s with heap := h', toks := tk' } ∧ St (i + 1) h' ∧ Φ (i + 1) h'
      | .brk => R (.ok .next) s'
      | .ret v => R (.ok (.ret v)) s') E { s with heap := h, toks := tk })
    (done : ∀ h tk, Φ n h → R (.ok .next) { s with heap := h, toks := tk }) :
    codeAny (model prog w) A (.forLoop (.Name x px) (.ref I) body [] env) R s := by
  refine codeAny_forLoop (fun k s' => ∃ h' tk i, s' = { s with heap := h', toks := tk } ∧ St i h' ∧ Φ i h' ∧ i ≤ n ∧ k = n + 1 - i) ?_ (n + 1) ⟨s.heap, s.toks, 0, rfl, hst, h0, Nat.zero_le _, rfl⟩
  rintro k s' ⟨h', tk, i, rfl, hst', hΦ, hi, rfl⟩
  by_cases hlt : i < n
  · refine W.item i _ _ _ hlt hst' fun v h₁ tk₁ hP hst₁ hk₁ => ?_
    refine wpAny_assign_Name (store i v h₁ tk₁ _ _ hlt hP hst₁ (pre _ _ _ hΦ hk₁) fun h₂ tk₂ hΨ => ?_)
    refine wpAny_mono (turn i v h₂ tk₂ _ hlt hP hΨ) (fun f s₃ h₃ => ?_) fun _ _ e => e
    cases f with
    | ret v => exact h₃
    | brk => exact h₃
    | cont =>
      obtain ⟨h4, tk4, rfl, a, b⟩ := h₃
      exact ⟨n + 1 - (i + 1), by omega, h4, tk4, i + 1, rfl, a, b, hlt, rfl⟩
    | next =>
      obtain ⟨h4, tk4, rfl, a, b⟩ := h₃
      exact ⟨n + 1 - (i + 1), by omega, h4, tk4, i + 1, rfl, a, b, hlt, rfl⟩
  · obtain rfl : i = n := Nat.le_antisymm hi (Nat.not_lt.mp hlt)
    refine W.done _ _ _ hst' fun h₂ tk₂ hk₂ => ?_
    exact wpAny_pure (done _ _ (pre _ _ _ hΦ hk₂))
end
end Mine

/- R14 -/
namespace Mine
open PySem PySem.W PyProof.Rows PySem.Calls PySem.Spec
open PyProof.Rows.LCg (NsObj lst ns_obj lst_snoc fr_but news_but SrcAt range_walks list_st range_st)
section
variable {prog : Program} {w : World} {A : Around} {E : Value → Shared → Prop} {R : Result → Shared → Prop} {s : Shared} {elt iter : PySem.Expr} {ifs : List PySem.Expr} {gens : List Comprehension} {scope : Scope} {pos : Pos} {env : Env} {depth : Nat}
  {h₀ : Heap} {L I C D ax : Addr} {vs : List Value} {m m₂ : Str → Option Value} {ys : List Value} {led : List (Addr × Obj)} {cl : List (Str × Addr)} {x y : Str} {px py tp : Pos} {cx : Nat}
theorem level_pair (hh : A.handled = none) (hg : gens[depth]? = some ⟨.Tuple [.Name x px, .Name y py] cx tp, iter, ifs, 0⟩) (hn : gens[depth + 1]? = none) (hx : scope.names.lookup x = some .local) (hy : scope.names.lookup y = some .local) (hkind : scope.kind = .function)
    (V : Lev prog w A h₀ L I [I, ax] vs.toArray.size (fun i v => vs.toArray[i]? = some v) (StL I ax vs) (SrcAt h₀ ax vs.toArray)) (hCI : C ≠ I) (hDI : D ≠ I) (hCf : C ∉ [I, ax]) (hDf : D ∉ [I, ax])
    (J : Nat → (Str → Option Value) → List Value → List (Addr × Obj) → Prop) (hS : ∀ i m₂ ys led, J i m₂ ys led → SrcAt h₀ ax vs.toArray led ∧ ys.length ≤ 100000)
    (hst : StL I ax vs 0 s.heap) (h0 : CS h₀ L C D m m₂ ys led s.heap) (off : ∀ p ∈ led, p.1 ≠ I) (hJ : J 0 m₂ ys led)
    (two : ∀ i m₂ ys led v, J i m₂ ys led → vs.toArray[i]? = some v → ∃ a n v₁ v₂, v = .ref a ∧ (a, ({ cls := .type "tuple", data := .seq #[v₁, v₂] n } : Obj)) ∈ led)
    (turn : ∀ i a n v₁ v₂ m₂ ys led h tk oI (E' : Value → Shared → Prop), i < vs.toArray.size → vs.toArray[i]? = some (.ref a) → (a, ({ cls := .type "tuple", data := .seq #[v₁, v₂] n } : Obj)) ∈ led → J i m₂ ys led → (∀ p ∈ led, p.1 ≠ I) →
      CS h₀ L C D m (fun z => if z = y then some v₂ else if z = x then some v₁ else m₂ z) ys ((I, oI) :: led) h →
      wpAny (model prog w) A (testsOf ifs (compEnvC scope cl C env)) (fun ok s' =>
        if ok = true then wpAny (model prog w) A (eval elt (compEnvC scope cl C env)) (fun y s'' => CEnd h₀ L C D m I oI (fun m' ys' led' => J (i + 1) m' (ys' ++ [y]) led' ∧ SrcAt h₀ ax vs.toArray led' ∧ ys'.length ≤ 100000) { s with heap := h, toks := tk } s'') E' s'
        else CEnd h₀ L C D m I oI (J (i + 1)) { s with heap := h, toks := tk } s') E' { s with heap := h, toks := tk })
    (done : ∀ m₂ ys led h tk, J vs.toArray.size m₂ ys led → CS h₀ L C D m m₂ ys led h → (∀ p ∈ led, p.1 ≠ I) → R (.ok .next) { s with heap := h, toks := tk }) :
    codeAny (model prog w) A (.compLoop (.ListComp elt gens scope pos) depth (.ref I) (.ref D) (compEnvC scope cl C env)) R s := by
  refine comp_loop_last hg hn (fun k s' => ∃ h' tk i m₂ ys led, s' = { s with heap := h', toks := tk } ∧ i ≤ vs.toArray.size ∧ k = vs.toArray.size + 1 - i ∧ StL I ax vs i h' ∧ CS h₀ L C D m m₂ ys led h' ∧ (∀ p ∈ led, p.1 ≠ I) ∧ J i m₂ ys led) ?_ (vs.toArray.size + 1)
    ⟨s.heap, s.toks, 0, m₂, ys, led, rfl, Nat.zero_le _, rfl, hst, h0, off, hJ⟩
  rintro k s' ⟨h', tk, i, m₃, ys₃, led₃, rfl, hi, rfl, hst', c, off', hJ'⟩
  by_cases hlt : i < vs.toArray.size
  · refine V.W.item i _ _ _ hlt hst' fun v h₂ tk₂ hPv hst₂ hk₂ => ?_
    obtain ⟨a, nt, v₁, v₂, rfl, hm⟩ := two _ _ _ _ _ hJ' hPv
    refine wpAny_letOwnedTupleGo_listiter hst₂.1 ?_
    have c₂ := c.step off' hCI hDI V.ne V.new hk₂
    have ht : IsTup h₂ a #[v₁, v₂] := ⟨_, (c₂.news _ hm).1, rfl, _, rfl⟩
    refine assign_Tuple_tuple (s := { s with heap := h₂, toks := tk₂ }) hh ht rfl rfl fun h₅ he => ?_
    have c₅ : CS h₀ L C D m m₃ ys₃ led₃ h₅ := c₂.keeps fun b o e => he b o (Nat.ne_of_lt (Heap.lt_size e)) e
    refine assignInOrder_cons (wpAny_assign_Name (wpAny_storeName_local (lookup_relabel_local hx) c₅.ns (fun h₆ hn₆ hs₆ => ?_) (by simp [compEnvC, relabel, hkind])))
    have c₆ := c₅.store hn₆ hs₆
    refine assignInOrder_cons (wpAny_assign_Name (wpAny_storeName_local (lookup_relabel_local hy) c₆.ns (fun h₃ hn₃ hs₃ => ?_) (by simp [compEnvC, relabel, hkind])))
    refine assignInOrder_nil ?_
    have hst₃ : StL I ax vs (i + 1) h₃ := V.W.frame _ _ _ hst₂ fun b hb o e => by
      have hne : b ≠ C := fun q => hCf (q ▸ hb)
      exact hs₃.extBut b o hne (hs₆.extBut b o hne (he b o (Nat.ne_of_lt (Heap.lt_size e)) e))
    obtain ⟨oI, heI⟩ := V.io _ _ hst₃
    have c₃ := (c₆.store hn₃ hs₃).withI heI hCI hDI V.ne V.new
    refine wpAny_mono (turn i a nt v₁ v₂ m₃ ys₃ led₃ h₃ _ oI _ hlt hPv hm hJ' off' c₃) (fun ok s₄ h₄ => ?_) fun _ _ e => e
    cases ok with
    | true =>
      simp only [if_true] at h₄ ⊢
      refine wpAny_mono h₄ (fun y s₅ h₅ => ?_) fun _ _ e => e
      obtain ⟨h₅, tk₅, m₅, ys₅, led₅, rfl, c₅, off₅, hJ₅, hS₅, hb₅⟩ := h₅
      have zI := (c₅.news (I, oI) (.head _)).1
      have hst₅ : StL I ax vs (i + 1) h₅ := V.st _ _ _ _ _ hst₃ heI zI c₅.1.keep (c₅.outI).news hS₅
      refine c₅.append (s := { s with heap := h₅, toks := tk₅ }) hb₅ fun h₆ c₆ => ?_
      have zI6 := (c₆.news (I, oI) (.head _)).1
      exact ⟨vs.toArray.size + 1 - (i + 1), by omega, h₆, tk₅, i + 1, m₅, ys₅ ++ [y], led₅, rfl, hlt, rfl, V.st _ _ _ _ _ hst₅ zI zI6 c₆.1.keep (c₆.outI).news hS₅, c₆.outI, off₅, hJ₅⟩
    | false =>
      simp only [Bool.false_eq_true, if_false] at h₄ ⊢
      obtain ⟨h₅, tk₅, m₅, ys₅, led₅, rfl, c₅, off₅, hJ₅⟩ := h₄
      have zI := (c₅.news (I, oI) (.head _)).1
      exact ⟨vs.toArray.size + 1 - (i + 1), by omega, h₅, tk₅, i + 1, m₅, ys₅, led₅, rfl, hlt, rfl, V.st _ _ _ _ _ hst₃ heI zI c₅.1.keep (c₅.outI).news (hS _ _ _ _ hJ₅).1, c₅.outI, off₅, hJ₅⟩
  · obtain rfl : i = vs.toArray.size := Nat.le_antisymm hi (Nat.not_lt.mp hlt)
    refine V.W.done _ _ _ hst' fun h₂ tk₂ hk₂ => ?_
    exact done _ _ _ _ _ hJ' (c.step off' hCI hDI V.ne V.new hk₂) off'
end
end Mine

/- L1 -/
namespace Mine
open PySem PySem.W PyProof.Rows PySem.Calls PySem.Spec
def fdBody : Stmt → List Stmt
  | .FunctionDef _ _ body _ _ _ _ _ _ _ => body
  | _ => []
def fdScope : Stmt → Scope
  | .FunctionDef _ _ _ _ _ _ scope _ _ _ => scope
  | _ => { kind := .function, names := [], isGenerator := false, isCoroutine := false }
def nth : List Stmt → Nat → Stmt
  | a :: _, 0 => a
  | _ :: r, k + 1 => nth r k
  | [], _ => .Pass ⟨0, 0, 0, 0⟩
def lawBody : List Stmt := fdBody (nth PySem.Challenge.pw_zz0003_01.main.body 12)
def lawScope : Scope := fdScope (nth PySem.Challenge.pw_zz0003_01.main.body 12)
abbrev lawEnv (L f : Addr) (cd : Value) : Env := envOfC (Str.ofString "law") lawScope L f cd
/-- the law's frame between its statements: six cells, then what it has made -/
structure LS (h₀ : Heap) (L : Addr) (m : Str → Option Value) (v1 v2 v3 v4 v5 v6 : Option Value) (dat : List (Addr × Obj)) (h : Heap) : Prop where
  F : Fr h₀ L h m
  N : ∃ o1 o2 o3 o4 o5 o6 : Obj, o1.data = .cell v1 ∧ o2.data = .cell v2 ∧ o3.data = .cell v3 ∧ o4.data = .cell v4 ∧ o5.data = .cell v5 ∧ o6.data = .cell v6 ∧
    News h₀ L h ((L + 1 + 1 + 1 + 1 + 1 + 1, o6) :: (L + 1 + 1 + 1 + 1 + 1, o5) :: (L + 1 + 1 + 1 + 1, o4) :: (L + 1 + 1 + 1, o3) :: (L + 1 + 1, o2) :: (L + 1, o1) :: dat)
  off : ∀ p ∈ dat, L + 1 + 1 + 1 + 1 + 1 + 1 < p.1
theorem off_ne {dat : List (Addr × Obj)} {k c : Nat} (h : ∀ p ∈ dat, @LT.lt Nat _ k p.1) (hc : c ≤ k) : ∀ p ∈ dat, p.1 ≠ c := fun p hp => Nat.ne_of_gt (Nat.lt_of_le_of_lt hc (h p hp))
theorem off_add {dat : List (Addr × Obj)} {k D : Nat} {o : Obj} (h : ∀ p ∈ dat, @LT.lt Nat _ k p.1) (hD : k < D) : ∀ p ∈ (D, o) :: dat, @LT.lt Nat _ k p.1 := fun p hp => by
  rcases List.mem_cons.mp hp with rfl | hp
  · exact hD
  · exact h p hp
theorem LS.of {h₀ h : Heap} {L : Addr} {m : Str → Option Value} {v1 v2 v3 v4 v5 v6 : Option Value} {dat led : List (Addr × Obj)} {o1 o2 o3 o4 o5 o6 : Obj} (F : Fr h₀ L h m) (N : News h₀ L h led)
    (d1 : o1.data = .cell v1) (d2 : o2.data = .cell v2) (d3 : o3.data = .cell v3) (d4 : o4.data = .cell v4) (d5 : o5.data = .cell v5) (d6 : o6.data = .cell v6)
    (m6 : (L + 1 + 1 + 1 + 1 + 1 + 1, o6) ∈ led) (m5 : (L + 1 + 1 + 1 + 1 + 1, o5) ∈ led) (m4 : (L + 1 + 1 + 1 + 1, o4) ∈ led) (m3 : (L + 1 + 1 + 1, o3) ∈ led) (m2 : (L + 1 + 1, o2) ∈ led) (m1 : (L + 1, o1) ∈ led) (hs : ∀ q ∈ dat, q ∈ led)
    (off : ∀ p ∈ dat, L + 1 + 1 + 1 + 1 + 1 + 1 < p.1) : LS h₀ L m v1 v2 v3 v4 v5 v6 dat h := by
  refine ⟨F, ⟨o1, o2, o3, o4, o5, o6, d1, d2, d3, d4, d5, d6, fun q hq => N q ?_⟩, off⟩
  rcases List.mem_cons.mp hq with rfl | hq
  · exact m6
  · rcases List.mem_cons.mp hq with rfl | hq
    · exact m5
    · rcases List.mem_cons.mp hq with rfl | hq
      · exact m4
      · rcases List.mem_cons.mp hq with rfl | hq
        · exact m3
        · rcases List.mem_cons.mp hq with rfl | hq
          · exact m2
          · rcases List.mem_cons.mp hq with rfl | hq
            · exact m1
            · exact hs q hq
end Mine

namespace Mine
open PySem PySem.W PyProof.Rows PySem.Calls PySem.Spec
section
local macro_rules | `(tactic| k_mem) => `(tactic| first | with_reducible assumption | exact List.Mem.head _ | (refine' List.mem_cons_of_mem _ ?_; k_mem) | (refine' List.mem_append_left _ ?_; k_mem) | (refine' List.mem_append_right _ ?_; k_mem))
local macro_rules | `(tactic| k_all) => `(tactic| exact off_ne (by assumption) (by omega))
local macro_rules | `(tactic| k_all) => `(tactic| (refine' List.forall_mem_cons.mpr ⟨?a, ?b⟩; (case a => k_ne); (case b => k_all)))
local macro_rules | `(tactic| walk_at "storeName") => `(tactic| (k_here; k_dflt (refine' storeX_C ?F ?N ?c ?U ?d ?_ ?a ?b; (case a => rfl); (case b => rfl); (case F => k_asm); (case N => k_asm); (case c => rfl); (case U => k_updF); (case d => k_asm)); intro h' o' F' N' d'; (try dsimp only at N'); (try k_sweep); (try dsimp only)))
local macro_rules | `(tactic| walk_at "call ref") => `(tactic| (k_here; (with_reducible show wpAny _ _ (call (Value.ref 67) _) _ _ _); k_dflt (refine' ring_ok ?k1 ?k2 ?k3 ?k4 ?k5 ?k6 ?k7 ?k8 ?k9 ?k14 ?k10 ?k11 ?k12 ?k13 ?_; (case k1 => k_asm); (case k2 => k_asm); (case k3 => k_asm); (case k4 => k_asm); (case k5 => k_asm); (case k6 => first | exact rfl | assumption); (case k7 => ktr_room); (case k8 => ktr_units); (case k9 => k_mem); (case k10 => assumption); (case k14 => walk_at "my sub"); (case k11 => walk_at "my bds"); (case k12 => walk_at "my len"); (case k13 => assumption)); intro D' ws' c' h' tk' F' N' l1 R'; (have l2 := l1); (try k_lt l2); (try dsimp only)))
section
local macro_rules | `(tactic| walk_at $s:str) => `(tactic| k_extra $s)
/- L2 -/
section
theorem reset_L2 {prog : Program} {w : World} {A : Around} {env : Env} {Q : Flow → Shared → Prop} {E : Value → Shared → Prop} {s : Shared} (h : Q .next s) : wpAny (model prog w) A (execs [] env) Q E s := by
  k_with_none
  w_top off
  walk1
  exact h
variable {w : World} {loose : List Str} {mean : ExcName → Option Value} {mg mb : Str → Option Value} {h₀ : Heap} {L f : Addr} {cd : Value} {m : Str → Option Value} {dat : List (Addr × Obj)} {s : Shared}
  {Q : Flow → Shared → Prop} {E : Value → Shared → Prop} {v1 v2 v3 v4 v5 v6 : Option Value}
theorem lines_L2_1 : True := by
  k_with "my sub" => (intro q9 hq9; first | exact hq9 | exact .tail _ hq9 | (rcases List.mem_cons.mp hq9 with rfl | hq9 <;> k_mem) | k_mem | exact .tail _ (.tail _ hq9) | exact .tail _ (.tail _ (.tail _ hq9)) | exact .tail _ (.tail _ (.tail _ (.tail _ hq9))) | (simp only [List.mem_append, List.mem_cons] at hq9 ⊢; grind))
  k_with "my pall" => first | assumption | exact PAll.mono (by assumption) (by walk_at "my sub")
  k_with "my pin" => first | assumption | exact PIn.mono (by assumption) (by walk_at "my sub")
  k_with "call builtin:len" => (k_here; (with_reducible show wpAny _ _ (call (Value.builtin "len") [Value.ref _]) _ _ _); k_dflt (refine' my_lenP ?k1 ?k2 ?k3 ?k4 ?_; (case k1 => k_asm); (case k2 => k_mem); (case k3 => assumption); (case k4 => omega)); intro _ _; (try dsimp only))
  k_with "subscriptTail" => (k_here; (with_reducible show wpAny _ _ (subscriptTail _ _ (Value.ref _) (Value.int _ _)) _ _ _); (refine' my_itemA ?k1 ?k2 ?k3 ?k4 ?k5 ?k6 ?_ ?k8 ?k9; (case k1 => k_asm); (case k2 => k_mem); (case k3 => assumption); (case k4 => omega); (case k5 => omega); (case k6 => omega); (case k8 => with_unfolding_all rfl); (case k9 => (intro _; with_unfolding_all rfl))); intro _ _)
  k_with "compareOp Lt" => (k_here; (with_reducible show wpAny _ _ (compareOp CmpOp.Lt _ _) _ _ _); (refine' my_lt ?k1 ?k2 ?k3 ?k4 ?_; (case k2 => walk_at "my pin"); (case k3 => walk_at "my pin"); (case k1 => k_asm); (case k4 => ktr_units)))
  k_with "compareOp NotEq" => (k_here; (with_reducible show wpAny _ _ (compareOp CmpOp.NotEq _ _) _ _ _); (refine' my_ne ?k1 ?k2 ?k3 ?k4 ?_; (case k2 => walk_at "my pin"); (case k3 => walk_at "my pin"); (case k1 => k_asm); (case k4 => ktr_units)))
  k_with "binaryOp Add ref ref" => (k_here; (with_reducible show wpAny _ _ (binaryOp _ (Value.ref _) (Value.ref _)) _ _ _); k_dflt (refine' my_addP ?k1 ?k2 ?k3 ?k4 ?k7 ?k8 ?k5 ?k6 ?_; (case k1 => k_asm); (case k2 => k_asm); (case k3 => k_mem); (case k4 => k_mem); (case k7 => assumption); (case k8 => walk_at "my pall"); (case k5 => omega); (case k6 => omega)); intro _ _ _ _ _ _ _; (try k_sweep); (try dsimp only))
  k_with "subscriptTail Name Slice ref ref" => (k_here; (with_reducible show wpAny _ _ (subscriptTail _ (PySem.Expr.Slice none none (some _) _) (Value.ref _) (Value.ref _)) _ _ _); k_dflt (refine' my_rev ?k1 ?k2 ?k3 ?k4 ?k5 ?_ ?k8 ?k9; (case k1 => k_asm); (case k2 => k_asm); (case k3 => k_mem); (case k4 => exact IsPart.int _ _); (case k5 => omega); (case k8 => with_unfolding_all rfl); (case k9 => (intro _; with_unfolding_all rfl))); intro _ _ _ _ _; (try k_sweep); (try dsimp only))
  k_with "call ref" => (k_here; (with_reducible show wpAny _ _ (call (Value.ref 53) _) _ _ _); k_dflt (refine' turn_ok ?k1 ?k2 ?k3 ?k4 ?k5 ?k6 ?k7 ?k8 ?k9 ?k10 ?k11 ?k12 ?k13 ?k14 ?_; (case k1 => k_asm); (case k2 => k_asm); (case k3 => k_asm); (case k4 => k_asm); (case k5 => k_asm); (case k6 => first | exact rfl | assumption); (case k7 => ktr_room); (case k8 => ktr_units); (case k9 => walk_at "my pin"); (case k10 => walk_at "my pin"); (case k11 => walk_at "my pin"); (case k12 => walk_at "my bd"); (case k13 => walk_at "my bd"); (case k14 => walk_at "my bd")); intro _ _ _ _ _; (try dsimp only))
  k_with "my bd" => first | assumption | (refine bd_at ?_ ?_ ?_ <;> first | assumption | omega)
  k_with "call ref" => (k_here; (with_reducible show wpAny _ _ (call (Value.ref 60) _) _ _ _); k_dflt (refine' half_ok ?k1 ?k2 ?k3 ?k4 ?k5 ?k6 ?k7 ?k8 ?k9 ?k13 ?k10 ?k11 ?k12 ?_; (case k1 => k_asm); (case k2 => k_asm); (case k3 => k_asm); (case k4 => k_asm); (case k5 => k_asm); (case k6 => first | exact rfl | assumption); (case k7 => ktr_room); (case k8 => ktr_units); (case k9 => k_mem); (case k10 => first | assumption | exact PAll.reverse (by assumption)); (case k13 => walk_at "my sub"); (case k11 => walk_at "my bds"); (case k12 => walk_at "my len")); intro _ _ _ _ _ _ _ _ _; (try dsimp only))
  k_with "my bds" => assumption
  k_with "my len" => first | omega | (simp only [List.length_append, List.length_cons, List.length_nil, List.length_reverse, List.length_map] at *; omega)
  k_with "my law" => (dsimp only [lawBody, lawScope, fdBody, fdScope, nth, PySem.Challenge.pw_zz0003_01])
  k_with "my LS" => (refine' LS.of ?F9 ?N9 ?d1 ?d2 ?d3 ?d4 ?d5 ?d6 ?m6 ?m5 ?m4 ?m3 ?m2 ?m1 ?hs ?off; (case F9 => assumption); (case N9 => assumption); (case m6 => k_mem); (case m5 => k_mem); (case m4 => k_mem); (case m3 => k_mem); (case m2 => k_mem); (case m1 => k_mem); (case d1 => assumption); (case d2 => assumption); (case d3 => assumption); (case d4 => assumption); (case d5 => assumption); (case d6 => assumption); (case hs => walk_at "my sub"); (case off => walk_at "my off"))
  k_with "my off" => first | assumption | (refine off_add ?_ (by omega); walk_at "my off")
  trivial
theorem seg2 {lp np : Nat} {vs : List Value} {ps : List Pt}
    (B : Below callerA h₀ [] h₀) (X : (hd.heap_39 w.params).In h₀) (T : Top hd.view_39 loose mean mg mb h₀)
    (H : LS h₀ L m (some (.ref lp)) v2 v3 v4 v5 v6 dat s.heap)
    (hl : (lp, listOf vs.toArray np) ∈ dat) (R : PAll dat vs ps) (bd : ∀ p ∈ ps, Bd p) (hz : ps.length ≤ 6) (hnd : ps.Nodup)
    (hret : ∀ D ws c h' tk', LS h₀ L m (some (.ref lp)) v2 (some (.ref D)) v4 v5 v6 ((D, listOf ws.toArray c) :: dat) h' → PAll dat ws (ring ps) → Q .next { s with heap := h', toks := tk' }) :
    wpAny (model PySem.Challenge.rw_zz0003_01.row.prog w) (callerA.deeper (lawEnv L f cd)) (exec (nth lawBody 2) (lawEnv L f cd)) Q E s := by
  revert X; k_fill; intro X
  walk_at "my law"
  obtain ⟨F, ⟨o1, o2, o3, o4, o5, o6, d1, d2, d3, d4, d5, d6, N⟩, off⟩ := H
  k_steps
  rename_i D ws c h1 tk l1 R' l2 h2 o F' N' d'
  exact hret D ws c _ _ (by walk_at "my LS") R'
end
end
local macro_rules | `(tactic| walk_at "subscriptTail") => `(tactic| walk_at "my item")
local macro_rules | `(tactic| walk_at "subscriptTail Name Constant ref int") => `(tactic| walk_at "my item")
local macro_rules | `(tactic| walk_at "subscriptTail Name Name ref int") => `(tactic| walk_at "my item")
local macro_rules | `(tactic| walk_at "subscriptTail Name BinOp ref int") => `(tactic| walk_at "my item")
local macro_rules | `(tactic| walk_at "subscriptTail Name UnaryOp ref int") => `(tactic| walk_at "my item")
local macro_rules | `(tactic| walk_at "eval ListComp") => `(tactic| (k_here; refine Stop.of ?_))
local macro_rules | `(tactic| walk_at "pyIter ref") => `(tactic| (k_here; refine Stop.of ?_))
local macro_rules | `(tactic| walk_at $s:str) => `(tactic| k_extra $s)
section
local macro_rules | `(tactic| walk_at "exec Assign cons ListComp") => `(tactic| (k_here; refine Stop.of ?_))
/- L3 -/
section
theorem reset_L3 {prog : Program} {w : World} {A : Around} {env : Env} {Q : Flow → Shared → Prop} {E : Value → Shared → Prop} {s : Shared} (h : Q .next s) : wpAny (model prog w) A (execs [] env) Q E s := by
  k_with_none
  w_top off
  walk1
  exact h
variable {w : World} {loose : List Str} {mean : ExcName → Option Value} {mg mb : Str → Option Value} {h₀ : Heap} {L f : Addr} {cd : Value} {m : Str → Option Value} {dat : List (Addr × Obj)} {s : Shared}
  {Q : Flow → Shared → Prop} {E : Value → Shared → Prop} {v1 v2 v3 v4 v5 v6 : Option Value}
theorem lines_L3_1 : True := by
  k_with "my sub" => (intro q9 hq9; first | exact hq9 | exact .tail _ hq9 | (rcases List.mem_cons.mp hq9 with rfl | hq9 <;> k_mem) | k_mem | exact .tail _ (.tail _ hq9) | exact .tail _ (.tail _ (.tail _ hq9)) | exact .tail _ (.tail _ (.tail _ (.tail _ hq9))) | (simp only [List.mem_append, List.mem_cons] at hq9 ⊢; grind))
  k_with "my pall" => first | assumption | exact PAll.mono (by assumption) (by walk_at "my sub")
  k_with "my pin" => first | assumption | exact PIn.mono (by assumption) (by walk_at "my sub")
  k_with "call builtin:len" => (k_here; (with_reducible show wpAny _ _ (call (Value.builtin "len") [Value.ref _]) _ _ _); k_dflt (refine' my_lenP ?k1 ?k2 ?k3 ?k4 ?_; (case k1 => k_asm); (case k2 => k_mem); (case k3 => assumption); (case k4 => omega)); intro _ _; (try dsimp only))
  k_with "my item" => (k_here; (with_reducible show wpAny _ _ (subscriptTail _ _ (Value.ref _) (Value.int _ _)) _ _ _); k_dflt (refine' my_itemA ?k1 ?k2 ?k3 ?k4 ?k5 ?k6 ?_ ?k8 ?k9; (case k1 => k_asm); (case k2 => k_mem); (case k3 => assumption); (case k4 => omega); (case k5 => omega); (case k6 => omega); (case k8 => with_unfolding_all rfl); (case k9 => (intro _; with_unfolding_all rfl))); intro _ _)
  k_with "compareOp Lt" => (k_here; (with_reducible show wpAny _ _ (compareOp CmpOp.Lt _ _) _ _ _); k_dflt (refine' my_lt ?k1 ?k2 ?k3 ?k4 ?_; (case k2 => walk_at "my pin"); (case k3 => walk_at "my pin"); (case k1 => k_asm); (case k4 => ktr_units)))
  k_with "compareOp NotEq" => (k_here; (with_reducible show wpAny _ _ (compareOp CmpOp.NotEq _ _) _ _ _); k_dflt (refine' my_ne ?k1 ?k2 ?k3 ?k4 ?_; (case k2 => walk_at "my pin"); (case k3 => walk_at "my pin"); (case k1 => k_asm); (case k4 => ktr_units)))
  k_with "binaryOp Add ref ref" => (k_here; (with_reducible show wpAny _ _ (binaryOp _ (Value.ref _) (Value.ref _)) _ _ _); k_dflt (refine' my_addP ?k1 ?k2 ?k3 ?k4 ?k7 ?k8 ?k5 ?k6 ?_; (case k1 => k_asm); (case k2 => k_asm); (case k3 => k_mem); (case k4 => k_mem); (case k7 => assumption); (case k8 => walk_at "my pall"); (case k5 => omega); (case k6 => omega)); intro _ _ _ _ _ _ _; (try k_sweep); (try dsimp only))
  k_with "subscriptTail Name Slice ref ref" => (k_here; (with_reducible show wpAny _ _ (subscriptTail _ (PySem.Expr.Slice none none (some _) _) (Value.ref _) (Value.ref _)) _ _ _); k_dflt (refine' my_rev ?k1 ?k2 ?k3 ?k4 ?k5 ?_ ?k8 ?k9; (case k1 => k_asm); (case k2 => k_asm); (case k3 => k_mem); (case k4 => exact IsPart.int _ _); (case k5 => omega); (case k8 => with_unfolding_all rfl); (case k9 => (intro _; with_unfolding_all rfl))); intro _ _ _ _ _; (try k_sweep); (try dsimp only))
  k_with "call ref" => (k_here; (with_reducible show wpAny _ _ (call (Value.ref 53) _) _ _ _); k_dflt (refine' turn_ok ?k1 ?k2 ?k3 ?k4 ?k5 ?k6 ?k7 ?k8 ?k9 ?k10 ?k11 ?k12 ?k13 ?k14 ?_; (case k1 => k_asm); (case k2 => k_asm); (case k3 => k_asm); (case k4 => k_asm); (case k5 => k_asm); (case k6 => first | exact rfl | assumption); (case k7 => ktr_room); (case k8 => ktr_units); (case k9 => walk_at "my pin"); (case k10 => walk_at "my pin"); (case k11 => walk_at "my pin"); (case k12 => walk_at "my bd"); (case k13 => walk_at "my bd"); (case k14 => walk_at "my bd")); intro _ _ _ _ _; (try dsimp only))
  k_with "my bd" => first | assumption | (refine bd_at ?_ ?_ ?_ <;> first | assumption | omega)
  k_with "call ref" => (k_here; (with_reducible show wpAny _ _ (call (Value.ref 60) _) _ _ _); k_dflt (refine' half_ok ?k1 ?k2 ?k3 ?k4 ?k5 ?k6 ?k7 ?k8 ?k9 ?k13 ?k10 ?k11 ?k12 ?_; (case k1 => k_asm); (case k2 => k_asm); (case k3 => k_asm); (case k4 => k_asm); (case k5 => k_asm); (case k6 => first | exact rfl | assumption); (case k7 => ktr_room); (case k8 => ktr_units); (case k9 => k_mem); (case k10 => first | assumption | exact PAll.reverse (by assumption)); (case k13 => walk_at "my sub"); (case k11 => walk_at "my bds"); (case k12 => walk_at "my len")); intro _ _ _ _ _ _ _ _ _; (try dsimp only))
  k_with "my bds" => assumption
  k_with "my len" => first | omega | (simp only [List.length_append, List.length_cons, List.length_nil, List.length_reverse, List.length_map] at *; omega)
  k_with "my law" => (dsimp only [lawBody, lawScope, fdBody, fdScope, nth, PySem.Challenge.pw_zz0003_01])
  k_with "my LS" => (refine' LS.of ?F9 ?N9 ?d1 ?d2 ?d3 ?d4 ?d5 ?d6 ?m6 ?m5 ?m4 ?m3 ?m2 ?m1 ?hs ?off; (case F9 => assumption); (case N9 => assumption); (case m6 => k_mem); (case m5 => k_mem); (case m4 => k_mem); (case m3 => k_mem); (case m2 => k_mem); (case m1 => k_mem); (case d1 => assumption); (case d2 => assumption); (case d3 => assumption); (case d4 => assumption); (case d5 => assumption); (case d6 => assumption); (case hs => walk_at "my sub"); (case off => walk_at "my off"))
  k_with "my off" => first | assumption | (refine off_add ?_ (by omega); walk_at "my off")
  k_with "subscriptTail Name Slice ref ref" => (k_here; (with_reducible show wpAny _ _ (subscriptTail _ (PySem.Expr.Slice (some _) none none _) (Value.ref _) (Value.ref _)) _ _ _); k_dflt (refine' my_from (j := 2) ?k1 ?k2 ?k3 ?k4 ?k5 ?k6 ?_ ?k8 ?k9; (case k1 => k_asm); (case k2 => k_asm); (case k3 => k_mem); (case k4 => exact IsPart.int _ _); (case k5 => exact IsPart.none); (case k6 => walk_at "my len"); (case k8 => with_unfolding_all rfl); (case k9 => (intro _; with_unfolding_all rfl))); intro _ _ _ _ _; (try k_sweep); (try dsimp only))
  trivial
def flatL (a b : Pt) (qs : List Pt) : List Int := (qs.filter fun q => decide (turn a b q ≠ 0)).map fun _ => 1

theorem seg3 {lp np : Nat} {vs : List Value} {ps : List Pt}
    (B : Below callerA h₀ [] h₀) (X : (hd.heap_39 w.params).In h₀) (T : Top hd.view_39 loose mean mg mb h₀)
    (H : LS h₀ L m (some (.ref lp)) v2 v3 v4 v5 v6 dat s.heap)
    (hl : (lp, listOf vs.toArray np) ∈ dat) (R : PAll dat vs ps) (bd : ∀ p ∈ ps, Bd p) (hz : ps.length ≤ 6)
    (hret : ∀ h' tk', LS h₀ L (fun z => if z = Str.ofString "flat" then some (.bool (decide (flatL (atI ps 0) (atI ps 1) (ps.drop 2) = []))) else m z) (some (.ref lp)) v2 v3 v4 v5 v6 dat h' → Q .next { s with heap := h', toks := tk' }) :
    wpAny (model PySem.Challenge.rw_zz0003_01.row.prog w) (callerA.deeper (lawEnv L f cd)) (exec (nth lawBody 3) (lawEnv L f cd)) Q E s := by
  revert X; k_fill; intro X
  walk_at "my law"
  have hvl := R.length
  obtain ⟨F, ⟨o1, o2, o3, o4, o5, o6, d1, d2, d3, d4, d5, d6, N⟩, off⟩ := H
  k_steps
  refine Stop.go ?_
  refine comp_eval (h₀ := h₀) (L := L) (by intro _; with_unfolding_all rfl) (by with_unfolding_all rfl) (by decide) (by rfl) (by decide) ?_
  k_steps
  refine Stop.go ?_
  rename_i D1 h1 F1 N1 l1
  refine top_list rfl F1 N1 (by k_mem) ?_
  intro I C D h2 h3 tk3 V st c hI hCI hDI hCa hDa hDs
  have RD := R.drop 2
  have hpl : (ps.drop 2).length = ps.length - 2 := List.length_drop
  refine level_last (by rfl) (by rfl) (by rfl) (by rfl) V hCI hDI hCa hDa (fun i _ ys nx => nx = (D1, listOf (vs.drop 2).toArray 0) :: ((L + 1 + 1 + 1 + 1 + 1 + 1, o6) :: (L + 1 + 1 + 1 + 1 + 1, o5) :: (L + 1 + 1 + 1 + 1, o4) :: (L + 1 + 1 + 1, o3) :: (L + 1 + 1, o2) :: (L + 1, o1) :: dat) ∧ IntsAre ys (flatL (atI ps 0) (atI ps 1) ((ps.drop 2).take i))) ?hS st c hI ⟨rfl, .nil⟩ ?turn ?done
  case hS =>
    rintro i m₂ ys led ⟨rfl, hy⟩
    refine ⟨.inr ⟨_, .head _, rfl, _, rfl⟩, ?_⟩
    have h1 := ints_len hy
    have h2 := flen (fun q => decide (turn (atI ps 0) (atI ps 1) q ≠ 0)) (fun _ => (1 : Int)) (ps.drop 2) i
    rw [flatL] at h1
    omega
  case turn =>
    rintro i v m₂ ys led h4 tk4 oI E' hi hv ⟨rfl, hy⟩ hoff ⟨F4, oC, hC, N4, off4, ne4⟩
    obtain ⟨hi', hP⟩ := RD.val hi hv
    have hx : (fun y => if y = Str.ofString "one" then some v else m₂ y) (Str.ofString "one") = some v := if_pos rfl
    have b1 : Bd (ps.drop 2)[i] := bd _ (List.mem_of_mem_drop (List.getElem_mem hi'))
    clear F1 N1 V st c
    refine tests_one ?_
    k_steps
    · rename (turn _ _ _ ≠ 0) => ht
      refine CEnd.same (by assumption) (by assumption) hC off4 hoff ne4 ⟨⟨rfl, ?_⟩, .inr ⟨_, .head _, rfl, _, rfl⟩, ?_⟩
      · rw [flatL, fpos hi' (decide_eq_true ht)]; exact ints_snoc hy _ _
      · have h1 := ints_len hy
        have h2 := flen (fun q => decide (turn (atI ps 0) (atI ps 1) q ≠ 0)) (fun _ => (1 : Int)) (ps.drop 2) i
        rw [flatL] at h1
        omega
    · rename (turn _ _ _ = 0) => ht
      refine CEnd.same (by assumption) (by assumption) hC off4 hoff ne4 ⟨rfl, ?_⟩
      rw [flatL, fneg hi' (decide_eq_false fun h => h ht)]; exact hy
  case done =>
    rintro m₂ ys led h4 tk4 ⟨rfl, hy⟩ c4 hoff
    refine ⟨_, _, _, _, _, rfl, c4, ?_⟩
    intro h5 F5 N5 hD5
    have e1 : (ps.drop 2).take (vs.drop 2).toArray.size = ps.drop 2 := by
      rw [List.size_toArray, RD.length, List.take_length]
    rw [e1] at hy
    clear F1 N1 V st c c4
    k_steps
    exact hret _ _ (by walk_at "my LS")
end
/- L4 -/
section
theorem reset_L4 {prog : Program} {w : World} {A : Around} {env : Env} {Q : Flow → Shared → Prop} {E : Value → Shared → Prop} {s : Shared} (h : Q .next s) : wpAny (model prog w) A (execs [] env) Q E s := by
  k_with_none
  w_top off
  walk1
  exact h
variable {w : World} {loose : List Str} {mean : ExcName → Option Value} {mg mb : Str → Option Value} {h₀ : Heap} {L f : Addr} {cd : Value} {m : Str → Option Value} {dat : List (Addr × Obj)} {s : Shared}
  {Q : Flow → Shared → Prop} {E : Value → Shared → Prop} {v1 v2 v3 v4 v5 v6 : Option Value}
theorem lines_L4_1 : True := by
  k_with "my sub" => (intro q9 hq9; first | exact hq9 | exact .tail _ hq9 | (rcases List.mem_cons.mp hq9 with rfl | hq9 <;> k_mem) | k_mem | exact .tail _ (.tail _ hq9) | exact .tail _ (.tail _ (.tail _ hq9)) | exact .tail _ (.tail _ (.tail _ (.tail _ hq9))) | (simp only [List.mem_append, List.mem_cons] at hq9 ⊢; grind))
  k_with "my pall" => first | assumption | exact PAll.mono (by assumption) (by walk_at "my sub")
  k_with "my pin" => first | assumption | exact PIn.mono (by assumption) (by walk_at "my sub")
  k_with "call builtin:len" => (k_here; (with_reducible show wpAny _ _ (call (Value.builtin "len") [Value.ref _]) _ _ _); k_dflt (refine' my_lenP ?k1 ?k2 ?k3 ?k4 ?_; (case k1 => k_asm); (case k2 => k_mem); (case k3 => assumption); (case k4 => omega)); intro _ _; (try dsimp only))
  k_with "my item" => (k_here; (with_reducible show wpAny _ _ (subscriptTail _ _ (Value.ref _) (Value.int _ _)) _ _ _); k_dflt (refine' my_itemA ?k1 ?k2 ?k3 ?k4 ?k5 ?k6 ?_ ?k8 ?k9; (case k1 => k_asm); (case k2 => k_mem); (case k3 => assumption); (case k4 => omega); (case k5 => omega); (case k6 => omega); (case k8 => with_unfolding_all rfl); (case k9 => (intro _; with_unfolding_all rfl))); intro _ _)
  k_with "compareOp Lt" => (k_here; (with_reducible show wpAny _ _ (compareOp CmpOp.Lt _ _) _ _ _); k_dflt (refine' my_lt ?k1 ?k2 ?k3 ?k4 ?_; (case k2 => walk_at "my pin"); (case k3 => walk_at "my pin"); (case k1 => k_asm); (case k4 => ktr_units)))
  k_with "compareOp NotEq" => (k_here; (with_reducible show wpAny _ _ (compareOp CmpOp.NotEq _ _) _ _ _); k_dflt (refine' my_ne ?k1 ?k2 ?k3 ?k4 ?_; (case k2 => walk_at "my pin"); (case k3 => walk_at "my pin"); (case k1 => k_asm); (case k4 => ktr_units)))
  k_with "binaryOp Add ref ref" => (k_here; (with_reducible show wpAny _ _ (binaryOp _ (Value.ref _) (Value.ref _)) _ _ _); k_dflt (refine' my_addP ?k1 ?k2 ?k3 ?k4 ?k7 ?k8 ?k5 ?k6 ?_; (case k1 => k_asm); (case k2 => k_asm); (case k3 => k_mem); (case k4 => k_mem); (case k7 => assumption); (case k8 => walk_at "my pall"); (case k5 => omega); (case k6 => omega)); intro _ _ _ _ _ _ _; (try k_sweep); (try dsimp only))
  k_with "subscriptTail Name Slice ref ref" => (k_here; (with_reducible show wpAny _ _ (subscriptTail _ (PySem.Expr.Slice none none (some _) _) (Value.ref _) (Value.ref _)) _ _ _); k_dflt (refine' my_rev ?k1 ?k2 ?k3 ?k4 ?k5 ?_ ?k8 ?k9; (case k1 => k_asm); (case k2 => k_asm); (case k3 => k_mem); (case k4 => exact IsPart.int _ _); (case k5 => omega); (case k8 => with_unfolding_all rfl); (case k9 => (intro _; with_unfolding_all rfl))); intro _ _ _ _ _; (try k_sweep); (try dsimp only))
  k_with "call ref" => (k_here; (with_reducible show wpAny _ _ (call (Value.ref 53) _) _ _ _); k_dflt (refine' turn_ok ?k1 ?k2 ?k3 ?k4 ?k5 ?k6 ?k7 ?k8 ?k9 ?k10 ?k11 ?k12 ?k13 ?k14 ?_; (case k1 => k_asm); (case k2 => k_asm); (case k3 => k_asm); (case k4 => k_asm); (case k5 => k_asm); (case k6 => first | exact rfl | assumption); (case k7 => ktr_room); (case k8 => ktr_units); (case k9 => walk_at "my pin"); (case k10 => walk_at "my pin"); (case k11 => walk_at "my pin"); (case k12 => walk_at "my bd"); (case k13 => walk_at "my bd"); (case k14 => walk_at "my bd")); intro _ _ _ _ _; (try dsimp only))
  k_with "my bd" => first | assumption | (refine bd_at ?_ ?_ ?_ <;> first | assumption | omega)
  k_with "call ref" => (k_here; (with_reducible show wpAny _ _ (call (Value.ref 60) _) _ _ _); k_dflt (refine' half_ok ?k1 ?k2 ?k3 ?k4 ?k5 ?k6 ?k7 ?k8 ?k9 ?k13 ?k10 ?k11 ?k12 ?_; (case k1 => k_asm); (case k2 => k_asm); (case k3 => k_asm); (case k4 => k_asm); (case k5 => k_asm); (case k6 => first | exact rfl | assumption); (case k7 => ktr_room); (case k8 => ktr_units); (case k9 => k_mem); (case k10 => first | assumption | exact PAll.reverse (by assumption)); (case k13 => walk_at "my sub"); (case k11 => walk_at "my bds"); (case k12 => walk_at "my len")); intro _ _ _ _ _ _ _ _ _; (try dsimp only))
  k_with "my bds" => assumption
  k_with "my len" => first | omega | (simp only [List.length_append, List.length_cons, List.length_nil, List.length_reverse, List.length_map] at *; omega)
  k_with "my law" => (dsimp only [lawBody, lawScope, fdBody, fdScope, nth, PySem.Challenge.pw_zz0003_01])
  k_with "my LS" => (refine' LS.of ?F9 ?N9 ?d1 ?d2 ?d3 ?d4 ?d5 ?d6 ?m6 ?m5 ?m4 ?m3 ?m2 ?m1 ?hs ?off; (case F9 => assumption); (case N9 => assumption); (case m6 => k_mem); (case m5 => k_mem); (case m4 => k_mem); (case m3 => k_mem); (case m2 => k_mem); (case m1 => k_mem); (case d1 => assumption); (case d2 => assumption); (case d3 => assumption); (case d4 => assumption); (case d5 => assumption); (case d6 => assumption); (case hs => walk_at "my sub"); (case off => walk_at "my off"))
  k_with "my off" => first | assumption | (refine off_add ?_ (by omega); walk_at "my off")
  k_with "subscriptTail Name Slice ref ref" => (k_here; (with_reducible show wpAny _ _ (subscriptTail _ (PySem.Expr.Slice (some _) none none _) (Value.ref _) (Value.ref _)) _ _ _); k_dflt (refine' my_from (j := 2) ?k1 ?k2 ?k3 ?k4 ?k5 ?k6 ?_ ?k8 ?k9; (case k1 => k_asm); (case k2 => k_asm); (case k3 => k_mem); (case k4 => exact IsPart.int _ _); (case k5 => exact IsPart.none); (case k6 => walk_at "my len"); (case k8 => with_unfolding_all rfl); (case k9 => (intro _; with_unfolding_all rfl))); intro _ _ _ _ _; (try k_sweep); (try dsimp only))
  trivial
theorem set4 {v : Value} {Q : Unit → Shared → Prop} (H : LS h₀ L m v1 v2 v3 v4 v5 v6 dat s.heap) (hret : ∀ h', LS h₀ L m v1 v2 v3 (some v) v5 v6 dat h' → Q () { s with heap := h' }) :
    wpAny (model PySem.Challenge.rw_zz0003_01.row.prog w) (callerA.deeper (lawEnv L f cd)) (storeName (lawEnv L f cd) (Str.ofString "k") v) Q E s := by
  obtain ⟨F, ⟨o1, o2, o3, o4, o5, o6, d1, d2, d3, d4, d5, d6, N⟩, off⟩ := H
  refine' storeX_C ?F ?N ?c ?U ?d ?_ ?a ?b
  case a => rfl
  case b => rfl
  case F => k_asm
  case N => k_asm
  case c => rfl
  case U => k_updF
  case d => k_asm
  intro h' o' F' N' d'; (try dsimp only at N'); (try k_sweep); (try dsimp only)
  exact hret _ (by walk_at "my LS")
theorem set2 {v : Value} {Q : Unit → Shared → Prop} (H : LS h₀ L m v1 v2 v3 v4 v5 v6 dat s.heap) (hret : ∀ h', LS h₀ L m v1 (some v) v3 v4 v5 v6 dat h' → Q () { s with heap := h' }) :
    wpAny (model PySem.Challenge.rw_zz0003_01.row.prog w) (callerA.deeper (lawEnv L f cd)) (storeName (lawEnv L f cd) (Str.ofString "point") v) Q E s := by
  obtain ⟨F, ⟨o1, o2, o3, o4, o5, o6, d1, d2, d3, d4, d5, d6, N⟩, off⟩ := H
  refine' storeX_C ?F ?N ?c ?U ?d ?_ ?a ?b
  case a => rfl
  case b => rfl
  case F => k_asm
  case N => k_asm
  case c => rfl
  case U => k_updF
  case d => k_asm
  intro h' o' F' N' d'; (try dsimp only at N'); (try k_sweep); (try dsimp only)
  exact hret _ (by walk_at "my LS")
theorem LS.news {h : Heap} (H : LS h₀ L m v1 v2 v3 v4 v5 v6 dat h) : News h₀ L h dat := by
  obtain ⟨F, ⟨o1, o2, o3, o4, o5, o6, d1, d2, d3, d4, d5, d6, N⟩, off⟩ := H
  exact fun p hp => N p (.tail _ (.tail _ (.tail _ (.tail _ (.tail _ (.tail _ hp))))))
/-- what an iterator, new behind the ledger, may touch -/
theorem LS.step {h h' : Heap} {I : Addr} (H : LS h₀ L m v1 v2 v3 v4 v5 v6 dat h) (hI : ∀ p ∈ dat, p.1 ≠ I) (hL : @LT.lt Nat _ (L + 1 + 1 + 1 + 1 + 1 + 1) I) (hI0 : h₀.get? I = none) (hk : ∀ b o, b ∉ [I] → h.get? b = some o → h'.get? b = some o) :
    LS h₀ L m v1 v2 v3 v4 v5 v6 dat h' := by
  obtain ⟨F, ⟨o1, o2, o3, o4, o5, o6, d1, d2, d3, d4, d5, d6, N⟩, off⟩ := H
  refine ⟨kmb_fr F hk (fun e => by rw [e] at hL; exact absurd hL (by omega)) hI0, ⟨o1, o2, o3, o4, o5, o6, d1, d2, d3, d4, d5, d6, kmb_news N hk ?_⟩, off⟩
  intro p hp
  simp only [List.mem_cons] at hp
  rcases hp with rfl | rfl | rfl | rfl | rfl | rfl | hp
  · exact Nat.ne_of_lt hL
  · exact Nat.ne_of_lt (by show @LT.lt Nat _ (L + 1 + 1 + 1 + 1 + 1) I; omega)
  · exact Nat.ne_of_lt (by show @LT.lt Nat _ (L + 1 + 1 + 1 + 1) I; omega)
  · exact Nat.ne_of_lt (by show @LT.lt Nat _ (L + 1 + 1 + 1) I; omega)
  · exact Nat.ne_of_lt (by show @LT.lt Nat _ (L + 1 + 1) I; omega)
  · exact Nat.ne_of_lt (by show @LT.lt Nat _ (L + 1) I; omega)
  · exact hI p hp
theorem LS.keeps {h h' : Heap} (H : LS h₀ L m v1 v2 v3 v4 v5 v6 dat h) (k : ∀ b o, h.get? b = some o → h'.get? b = some o) : LS h₀ L m v1 v2 v3 v4 v5 v6 dat h' := by
  obtain ⟨F, ⟨o1, o2, o3, o4, o5, o6, d1, d2, d3, d4, d5, d6, N⟩, off⟩ := H
  exact ⟨F.keeps k, ⟨o1, o2, o3, o4, o5, o6, d1, d2, d3, d4, d5, d6, N.grown k⟩, off⟩
theorem LS.sub {h : Heap} {dat' : List (Addr × Obj)} (H : LS h₀ L m v1 v2 v3 v4 v5 v6 dat h) (hs : ∀ q ∈ dat', q ∈ dat) : LS h₀ L m v1 v2 v3 v4 v5 v6 dat' h := by
  obtain ⟨F, ⟨o1, o2, o3, o4, o5, o6, d1, d2, d3, d4, d5, d6, N⟩, off⟩ := H
  refine ⟨F, ⟨o1, o2, o3, o4, o5, o6, d1, d2, d3, d4, d5, d6, fun p hp => N p ?_⟩, fun p hp => off p (hs p hp)⟩
  simp only [List.mem_cons] at hp ⊢
  rcases hp with hp | hp | hp | hp | hp | hp | hp
  · exact .inl hp
  · exact .inr (.inl hp)
  · exact .inr (.inr (.inl hp))
  · exact .inr (.inr (.inr (.inl hp)))
  · exact .inr (.inr (.inr (.inr (.inl hp))))
  · exact .inr (.inr (.inr (.inr (.inr (.inl hp)))))
  · exact .inr (.inr (.inr (.inr (.inr (.inr (hs _ hp))))))
theorem LS.add {h : Heap} {a : Addr} {o : Obj} (H : LS h₀ L m v1 v2 v3 v4 v5 v6 dat h) (e : h.get? a = some o) (hL : @LT.lt Nat _ (L + 1 + 1 + 1 + 1 + 1 + 1) a) (h0 : h₀.get? a = none) : LS h₀ L m v1 v2 v3 v4 v5 v6 ((a, o) :: dat) h := by
  obtain ⟨F, ⟨o1, o2, o3, o4, o5, o6, d1, d2, d3, d4, d5, d6, N⟩, off⟩ := H
  refine ⟨F, ⟨o1, o2, o3, o4, o5, o6, d1, d2, d3, d4, d5, d6, fun p hp => ?_⟩, fun p hp => ?_⟩
  · simp only [List.mem_cons] at hp
    have hL' : @LT.lt Nat _ L a := by omega
    rcases hp with hp | hp | hp | hp | hp | hp | rfl | hp
    · exact N p (by simp only [List.mem_cons]; exact .inl hp)
    · exact N p (by simp only [List.mem_cons]; exact .inr (.inl hp))
    · exact N p (by simp only [List.mem_cons]; exact .inr (.inr (.inl hp)))
    · exact N p (by simp only [List.mem_cons]; exact .inr (.inr (.inr (.inl hp))))
    · exact N p (by simp only [List.mem_cons]; exact .inr (.inr (.inr (.inr (.inl hp)))))
    · exact N p (by simp only [List.mem_cons]; exact .inr (.inr (.inr (.inr (.inr (.inl hp))))))
    · exact ⟨e, Nat.ne_of_gt hL', h0⟩
    · exact N p (by simp only [List.mem_cons]; exact .inr (.inr (.inr (.inr (.inr (.inr hp))))))
  · rcases List.mem_cons.mp hp with rfl | hp
    · exact hL
    · exact off p hp
open PyProof.Rows.LCg (SrcAt)
theorem LS.top {h : Heap} (H : LS h₀ L m v1 v2 v3 v4 v5 v6 dat h) : @LT.lt Nat _ (L + 1 + 1 + 1 + 1 + 1 + 1) h.objs.size := by
  obtain ⟨F, ⟨o1, o2, o3, o4, o5, o6, d1, d2, d3, d4, d5, d6, N⟩, off⟩ := H
  exact Heap.lt_size (N _ (.head _)).1
section
variable {A : Around} {env : Env} {x : Str} {px : Pos} {body : List Stmt} {ER : Value → Shared → Prop}
def ForEnd4 (Q : Flow → Shared → Prop) (s : Shared) (h₀ : Heap) (L : Addr) (m : Str → Option Value) (v1 v2 v3 v5 v6 : Option Value) (dat : List (Addr × Obj)) (f : Flow) (s' : Shared) : Prop :=
  match f with
  | .next | .cont => ∃ h' tk' v4, s' = { s with heap := h', toks := tk' } ∧ LS h₀ L m v1 v2 v3 v4 v5 v6 dat h'
  | .brk => Q .next s'
  | .ret v => Q (.ret v) s'
theorem for4_range {r : Addr} {n : Nat} {t u v : Tok} (hh : (callerA.deeper (lawEnv L f cd)).handled = none) (H : LS h₀ L m v1 v2 v3 v4 v5 v6 dat s.heap) (hr : IsRange s.heap r 0 (n : Int) 1 t u v) (hn : n ≤ 1000)
    (turn : ∀ (i : Nat) t h tk I oI (E' : Value → Shared → Prop), i < n → @LT.lt Nat _ (L + 1 + 1 + 1 + 1 + 1 + 1) I → (∀ p ∈ dat, p.1 ≠ I) → LS h₀ L m v1 v2 v3 (some (.int (i : Int) t)) v5 v6 ((I, oI) :: dat) h →
      wpAny (model PySem.Challenge.rw_zz0003_01.row.prog w) (callerA.deeper (lawEnv L f cd)) (execs body (lawEnv L f cd)) (ForEnd4 Q { s with heap := h, toks := tk } h₀ L m v1 v2 v3 v5 v6 ((I, oI) :: dat)) E' { s with heap := h, toks := tk })
    (done : ∀ v4 h tk, LS h₀ L m v1 v2 v3 v4 v5 v6 dat h → Q .next { s with heap := h, toks := tk }) :
    wpAny (model PySem.Challenge.rw_zz0003_01.row.prog w) (callerA.deeper (lawEnv L f cd)) (pyIter (.ref r)) (fun it s₂ => codeAny (model PySem.Challenge.rw_zz0003_01.row.prog w) (callerA.deeper (lawEnv L f cd)) (.forLoop (.Name (Str.ofString "k") px) it body [] (lawEnv L f cd))
      (fun r s' => match r with | .ok f => Q f s' | .error e => ER e s') s₂) E s := by
  refine iter_range hh H.F hr hn fun I h' V st keep ne lt => ?_
  have hI : ∀ p ∈ dat, p.1 ≠ I := fun p hp => ne _ (Heap.lt_size (H.news p hp).1)
  have hsz : s.heap.objs.size ≤ I := by
    rcases Nat.lt_or_ge I s.heap.objs.size with h | h
    · exact absurd rfl (ne _ h)
    · exact h
  have hL : @LT.lt Nat _ (L + 1 + 1 + 1 + 1 + 1 + 1) I := Nat.lt_of_lt_of_le H.top hsz
  refine cell_for (s := { s with heap := h' }) (fun _ h => ∃ v4, LS h₀ L m v1 v2 v3 v4 v5 v6 dat h) (fun i v h => ∃ oI, StR I n (i + 1) h ∧ LS h₀ L m v1 v2 v3 (some v) v5 v6 ((I, oI) :: dat) h) V.W st ⟨v4, H.keeps keep⟩ ?_ ?_ ?_ ?_
  · rintro i h h2 ⟨v4, H'⟩ hk
    exact ⟨v4, H'.step hI hL V.new hk⟩
  · rintro i v h tk Q' E' hi hP hst ⟨v4, H'⟩ k
    obtain ⟨oI, eI⟩ := V.io _ _ hst
    exact set4 (s := { s with heap := h, toks := tk }) (H'.add eI hL V.new) fun h2 H2 => k h2 _ ⟨oI, V.st _ _ _ _ _ hst eI (H2.news _ (.head _)).1 H2.F.keep (fun p hp => H2.news p (.tail _ hp)) trivial, H2⟩
  · rintro i v h tk E' hi ⟨t, rfl⟩ ⟨oI, hst, H'⟩
    have eI := (H'.news _ (.head _)).1
    have e1 : (0 : Int) + (i : Int) = (i : Int) := by omega
    rw [e1] at H'
    refine wpAny_mono (turn i t h tk I oI E' hi hL hI H') (fun f s' h => ?_) fun _ _ e => e
    cases f with
    | ret v => exact h
    | brk => exact h
    | next =>
      obtain ⟨h2, tk2, v4', rfl, H2⟩ := h
      exact ⟨h2, tk2, rfl, V.st _ _ _ _ _ hst eI (H2.news _ (.head _)).1 H2.F.keep (fun p hp => H2.news p (.tail _ hp)) trivial, v4', H2.sub fun q hq => .tail _ hq⟩
    | cont =>
      obtain ⟨h2, tk2, v4', rfl, H2⟩ := h
      exact ⟨h2, tk2, rfl, V.st _ _ _ _ _ hst eI (H2.news _ (.head _)).1 H2.F.keep (fun p hp => H2.news p (.tail _ hp)) trivial, v4', H2.sub fun q hq => .tail _ hq⟩
  · rintro h tk ⟨v4, H'⟩
    exact done v4 h tk H'
def ForEnd2 (Q : Flow → Shared → Prop) (s : Shared) (h₀ : Heap) (L : Addr) (v1 v3 v4 v6 : Option Value) (dat : List (Addr × Obj)) (f : Flow) (s' : Shared) : Prop :=
  match f with
  | .next | .cont => ∃ h' tk' m v2 v5, s' = { s with heap := h', toks := tk' } ∧ LS h₀ L m v1 v2 v3 v4 v5 v6 dat h'
  | .brk => Q .next s'
  | .ret v => Q (.ret v) s'
theorem for2_list {ax c : Nat} {vs : List Value} (hh : (callerA.deeper (lawEnv L f cd)).handled = none) (H : LS h₀ L m v1 v2 v3 v4 v5 v6 dat s.heap) (hm : (ax, listOf vs.toArray c) ∈ dat)
    (turn : ∀ (i : Nat) v m v5 h tk I oI (E' : Value → Shared → Prop), i < vs.toArray.size → vs.toArray[i]? = some v → @LT.lt Nat _ (L + 1 + 1 + 1 + 1 + 1 + 1) I → (∀ p ∈ dat, p.1 ≠ I) → LS h₀ L m v1 (some v) v3 v4 v5 v6 ((I, oI) :: dat) h →
      wpAny (model PySem.Challenge.rw_zz0003_01.row.prog w) (callerA.deeper (lawEnv L f cd)) (execs body (lawEnv L f cd)) (ForEnd2 Q { s with heap := h, toks := tk } h₀ L v1 v3 v4 v6 ((I, oI) :: dat)) E' { s with heap := h, toks := tk })
    (done : ∀ m v2 v5 h tk, LS h₀ L m v1 v2 v3 v4 v5 v6 dat h → Q .next { s with heap := h, toks := tk }) :
    wpAny (model PySem.Challenge.rw_zz0003_01.row.prog w) (callerA.deeper (lawEnv L f cd)) (pyIter (.ref ax)) (fun it s₂ => codeAny (model PySem.Challenge.rw_zz0003_01.row.prog w) (callerA.deeper (lawEnv L f cd)) (.forLoop (.Name (Str.ofString "point") px) it body [] (lawEnv L f cd))
      (fun r s' => match r with | .ok f => Q f s' | .error e => ER e s') s₂) E s := by
  refine iter_list hh H.F H.news hm fun I h' V st keep ne lt => ?_
  have hI : ∀ p ∈ dat, p.1 ≠ I := fun p hp => ne _ (Heap.lt_size (H.news p hp).1)
  have hsz : s.heap.objs.size ≤ I := by
    rcases Nat.lt_or_ge I s.heap.objs.size with h | h
    · exact absurd rfl (ne _ h)
    · exact h
  have hL : @LT.lt Nat _ (L + 1 + 1 + 1 + 1 + 1 + 1) I := Nat.lt_of_lt_of_le H.top hsz
  refine cell_for (s := { s with heap := h' }) (fun _ h => ∃ m v2 v5, LS h₀ L m v1 v2 v3 v4 v5 v6 dat h) (fun i v h => ∃ oI m v5, StL I ax vs (i + 1) h ∧ LS h₀ L m v1 (some v) v3 v4 v5 v6 ((I, oI) :: dat) h) V.W st ⟨m, v2, v5, H.keeps keep⟩ ?_ ?_ ?_ ?_
  · rintro i h h2 ⟨m, v2, v5, H'⟩ hk
    exact ⟨m, v2, v5, H'.step hI hL V.new hk⟩
  · rintro i v h tk Q' E' hi hP hst ⟨m, v2, v5, H'⟩ k
    obtain ⟨oI, eI⟩ := V.io _ _ hst
    exact set2 (s := { s with heap := h, toks := tk }) (H'.add eI hL V.new) fun h2 H2 => k h2 _ ⟨oI, m, v5, V.st _ _ _ _ _ hst eI (H2.news _ (.head _)).1 H2.F.keep (fun p hp => H2.news p (.tail _ hp)) (.inr ⟨_, hm, rfl, _, rfl⟩), H2⟩
  · rintro i v h tk E' hi hv ⟨oI, m, v5, hst, H'⟩
    have eI := (H'.news _ (.head _)).1
    refine wpAny_mono (turn i v m v5 h tk I oI E' hi hv hL hI H') (fun f s' h => ?_) fun _ _ e => e
    cases f with
    | ret v => exact h
    | brk => exact h
    | next =>
      obtain ⟨h2, tk2, m', v2', v5', rfl, H2⟩ := h
      exact ⟨h2, tk2, rfl, V.st _ _ _ _ _ hst eI (H2.news _ (.head _)).1 H2.F.keep (fun p hp => H2.news p (.tail _ hp)) (.inr ⟨_, hm, rfl, _, rfl⟩), m', v2', v5', H2.sub fun q hq => .tail _ hq⟩
    | cont =>
      obtain ⟨h2, tk2, m', v2', v5', rfl, H2⟩ := h
      exact ⟨h2, tk2, rfl, V.st _ _ _ _ _ hst eI (H2.news _ (.head _)).1 H2.F.keep (fun p hp => H2.news p (.tail _ hp)) (.inr ⟨_, hm, rfl, _, rfl⟩), m', v2', v5', H2.sub fun q hq => .tail _ hq⟩
  · rintro h tk ⟨m, v2, v5, H'⟩
    exact done m v2 v5 h tk H'
end
end
end
section
local macro_rules | `(tactic| walk_at "my idle") => `(tactic| skip)
local macro_rules | `(tactic| walk_at "my idle") => `(tactic| skip)
/- L6a -/
section
theorem reset_L6a {prog : Program} {w : World} {A : Around} {env : Env} {Q : Flow → Shared → Prop} {E : Value → Shared → Prop} {s : Shared} (h : Q .next s) : wpAny (model prog w) A (execs [] env) Q E s := by
  k_with_none
  w_top off
  walk1
  exact h
variable {w : World} {loose : List Str} {mean : ExcName → Option Value} {mg mb : Str → Option Value} {h₀ : Heap} {L f : Addr} {cd : Value} {m : Str → Option Value} {dat : List (Addr × Obj)} {s : Shared}
  {Q : Flow → Shared → Prop} {E : Value → Shared → Prop} {v1 v2 v3 v4 v5 v6 : Option Value}
theorem lines_L6a_1 : True := by
  k_with "my sub" => (intro q9 hq9; first | exact hq9 | exact .tail _ hq9 | (rcases List.mem_cons.mp hq9 with rfl | hq9 <;> k_mem) | k_mem | exact .tail _ (.tail _ hq9) | exact .tail _ (.tail _ (.tail _ hq9)) | exact .tail _ (.tail _ (.tail _ (.tail _ hq9))) | (simp only [List.mem_append, List.mem_cons] at hq9 ⊢; grind))
  k_with "my pall" => first | assumption | exact PAll.mono (by assumption) (by walk_at "my sub")
  k_with "my pin" => first | assumption | exact PIn.mono (by assumption) (by walk_at "my sub")
  k_with "call builtin:len" => (k_here; (with_reducible show wpAny _ _ (call (Value.builtin "len") [Value.ref _]) _ _ _); k_dflt (refine' my_lenP ?k1 ?k2 ?k3 ?k4 ?_; (case k1 => k_asm); (case k2 => k_mem); (case k3 => assumption); (case k4 => omega)); intro _ _; (try dsimp only))
  k_with "my item" => (k_here; (with_reducible show wpAny _ _ (subscriptTail _ _ (Value.ref _) (Value.int _ _)) _ _ _); k_dflt (refine' my_itemA ?k1 ?k2 ?k3 ?k4 ?k5 ?k6 ?_ ?k8 ?k9; (case k1 => k_asm); (case k2 => k_mem); (case k3 => assumption); (case k4 => omega); (case k5 => omega); (case k6 => omega); (case k8 => with_unfolding_all rfl); (case k9 => (intro _; with_unfolding_all rfl))); intro _ _)
  k_with "compareOp Lt" => (k_here; (with_reducible show wpAny _ _ (compareOp CmpOp.Lt _ _) _ _ _); k_dflt (refine' my_lt ?k1 ?k2 ?k3 ?k4 ?_; (case k1 => k_asm); (case k2 => walk_at "my pin"); (case k3 => walk_at "my pin"); (case k4 => ktr_units)))
  k_with "compareOp NotEq" => (k_here; (with_reducible show wpAny _ _ (compareOp CmpOp.NotEq _ _) _ _ _); k_dflt (refine' my_ne ?k1 ?k2 ?k3 ?k4 ?_; (case k1 => k_asm); (case k2 => walk_at "my pin"); (case k3 => walk_at "my pin"); (case k4 => ktr_units)))
  k_with "binaryOp Add ref ref" => (k_here; (with_reducible show wpAny _ _ (binaryOp _ (Value.ref _) (Value.ref _)) _ _ _); k_dflt (refine' my_addP ?k1 ?k2 ?k3 ?k4 ?k7 ?k8 ?k5 ?k6 ?_; (case k1 => k_asm); (case k2 => k_asm); (case k3 => k_mem); (case k4 => k_mem); (case k7 => assumption); (case k8 => walk_at "my pall"); (case k5 => omega); (case k6 => omega)); intro _ _ _ _ _ _ _; (try k_sweep); (try dsimp only))
  k_with "subscriptTail Name Slice ref ref" => (k_here; (with_reducible show wpAny _ _ (subscriptTail _ (PySem.Expr.Slice none none (some _) _) (Value.ref _) (Value.ref _)) _ _ _); k_dflt (refine' my_rev ?k1 ?k2 ?k3 ?k4 ?k5 ?_ ?k8 ?k9; (case k1 => k_asm); (case k2 => k_asm); (case k3 => k_mem); (case k4 => exact IsPart.int _ _); (case k5 => omega); (case k8 => with_unfolding_all rfl); (case k9 => (intro _; with_unfolding_all rfl))); intro _ _ _ _ _; (try k_sweep); (try dsimp only))
  k_with "call ref" => (k_here; (with_reducible show wpAny _ _ (call (Value.ref 53) _) _ _ _); k_dflt (refine' turn_ok ?k1 ?k2 ?k3 ?k4 ?k5 ?k6 ?k7 ?k8 ?k9 ?k10 ?k11 ?k12 ?k13 ?k14 ?_; (case k1 => k_asm); (case k2 => k_asm); (case k3 => k_asm); (case k4 => k_asm); (case k5 => k_asm); (case k6 => first | exact rfl | assumption); (case k7 => ktr_room); (case k8 => ktr_units); (case k9 => walk_at "my pin"); (case k10 => walk_at "my pin"); (case k11 => walk_at "my pin"); (case k12 => walk_at "my bd"); (case k13 => walk_at "my bd"); (case k14 => walk_at "my bd")); intro _ _ _ _ _; (try dsimp only))
  k_with "my bd" => first | assumption | (refine bd_at ?_ ?_ ?_ <;> first | assumption | omega)
  k_with "call ref" => (k_here; (with_reducible show wpAny _ _ (call (Value.ref 60) _) _ _ _); k_dflt (refine' half_ok ?k1 ?k2 ?k3 ?k4 ?k5 ?k6 ?k7 ?k8 ?k9 ?k13 ?k10 ?k11 ?k12 ?_; (case k1 => k_asm); (case k2 => k_asm); (case k3 => k_asm); (case k4 => k_asm); (case k5 => k_asm); (case k6 => first | exact rfl | assumption); (case k7 => ktr_room); (case k8 => ktr_units); (case k9 => k_mem); (case k10 => first | assumption | exact PAll.reverse (by assumption)); (case k13 => walk_at "my sub"); (case k11 => walk_at "my bds"); (case k12 => walk_at "my len")); intro _ _ _ _ _ _ _ _ _; (try dsimp only))
  k_with "my bds" => assumption
  k_with "my len" => first | omega | (simp only [List.length_append, List.length_cons, List.length_nil, List.length_reverse, List.length_map] at *; omega)
  k_with "my law" => (dsimp only [lawBody, lawScope, fdBody, fdScope, nth, PySem.Challenge.pw_zz0003_01])
  k_with "my LS" => (refine' LS.of ?F9 ?N9 ?d1 ?d2 ?d3 ?d4 ?d5 ?d6 ?m6 ?m5 ?m4 ?m3 ?m2 ?m1 ?hs ?off; (case F9 => assumption); (case N9 => assumption); (case m6 => k_mem); (case m5 => k_mem); (case m4 => k_mem); (case m3 => k_mem); (case m2 => k_mem); (case m1 => k_mem); (case d1 => assumption); (case d2 => assumption); (case d3 => assumption); (case d4 => assumption); (case d5 => assumption); (case d6 => assumption); (case hs => walk_at "my sub"); (case off => walk_at "my off"))
  k_with "my off" => first | assumption | (refine off_add ?_ (by omega); walk_at "my off")
  k_with "subscriptTail Name Slice ref ref" => (k_here; (with_reducible show wpAny _ _ (subscriptTail _ (PySem.Expr.Slice (some _) none none _) (Value.ref _) (Value.ref _)) _ _ _); k_dflt (refine' my_from (j := 2) ?k1 ?k2 ?k3 ?k4 ?k5 ?k6 ?_ ?k8 ?k9; (case k1 => k_asm); (case k2 => k_asm); (case k3 => k_mem); (case k4 => exact IsPart.int _ _); (case k5 => exact IsPart.none); (case k6 => walk_at "my len"); (case k8 => with_unfolding_all rfl); (case k9 => (intro _; with_unfolding_all rfl))); intro _ _ _ _ _; (try k_sweep); (try dsimp only))
  trivial
def forB : Stmt → List Stmt
  | .For _ _ body _ _ => body
  | _ => []
def ptBody : List Stmt := forB (nth lawBody 6)
theorem lines_L6a_2 : True := by
  k_with "my law" => (dsimp only [ptBody, forB, lawBody, lawScope, fdBody, fdScope, nth, PySem.Challenge.pw_zz0003_01])
  trivial
def rest (ps : List Pt) (p : Pt) : List Pt := ps.filter fun q => decide (q ≠ p)
theorem rest_pos {ps : List Pt} {p : Pt} {i : Nat} (hi : i < ps.length) (h : ps[i] ≠ p) : rest (ps.take (i + 1)) p = rest (ps.take i) p ++ [ps[i]] := by
  rw [rest, take_succ_at hi, List.filter_append, List.filter_cons_of_pos (by exact decide_eq_true h)]
  rfl
theorem rest_neg {ps : List Pt} {p : Pt} {i : Nat} (hi : i < ps.length) (h : ¬ ps[i] ≠ p) : rest (ps.take (i + 1)) p = rest (ps.take i) p := by
  rw [rest, take_succ_at hi, List.filter_append, List.filter_cons_of_neg (by rw [decide_eq_true_eq]; exact h)]
  simp [rest]
theorem rest_len (ps : List Pt) (p : Pt) : (rest ps p).length ≤ ps.length := List.length_filter_le _ _
theorem seg6a {lp np : Nat} {vs : List Value} {ps : List Pt} {v : Value} {p : Pt}
    (B : Below callerA h₀ [] h₀) (X : (hd.heap_39 w.params).In h₀) (T : Top hd.view_39 loose mean mg mb h₀)
    (H : LS h₀ L m (some (.ref lp)) (some v) v3 v4 v5 v6 dat s.heap)
    (hl : (lp, listOf vs.toArray np) ∈ dat) (R : PAll dat vs ps) (hz : ps.length ≤ 6) (hP : PIn dat v p)
    (hret : ∀ D c ys h' tk', PAll dat ys (rest ps p) → LS h₀ L m (some (.ref lp)) (some v) v3 v4 (some (.ref D)) v6 ((D, listOf ys.toArray c) :: dat) h' → Q .next { s with heap := h', toks := tk' }) :
    wpAny (model PySem.Challenge.rw_zz0003_01.row.prog w) (callerA.deeper (lawEnv L f cd)) (exec (nth ptBody 0) (lawEnv L f cd)) Q E s := by
  revert X; k_fill; intro X
  walk_at "my law"
  have hvl := R.length
  obtain ⟨F, ⟨o1, o2, o3, o4, o5, o6, d1, d2, d3, d4, d5, d6, N⟩, off⟩ := H
  k_steps
  refine Stop.go ?_
  refine comp_eval (h₀ := h₀) (L := L) (by intro _; with_unfolding_all rfl) (by with_unfolding_all rfl) (by decide) (by rfl) (by decide) ?_
  k_steps
  refine Stop.go ?_
  refine top_list (vs := vs) (k := np) rfl F N (by k_mem) ?_
  intro I C D h2 h3 tk3 V st c hI hCI hDI hCa hDa hDs
  have hlt6 : @LT.lt Nat _ (L + 1 + 1 + 1 + 1 + 1 + 1) D := Nat.lt_of_lt_of_le (Heap.lt_size (N _ (.head _)).1) hDs
  refine level_last (by rfl) (by rfl) (by rfl) (by rfl) V hCI hDI hCa hDa (Jfix _ fun i ys => PAll dat ys (rest (ps.take i) p)) ?hS st c hI ⟨rfl, .nil⟩ ?turn ?done
  case hS =>
    rintro i m₂ ys led ⟨rfl, hy⟩
    refine ⟨.inr ⟨listOf vs.toArray np, by k_mem, rfl, _, rfl⟩, ?_⟩
    have h1 := hy.length
    have h2 := flen (fun q => decide (q ≠ p)) id ps i
    rw [List.map_id] at h2
    rw [rest] at h1
    omega
  case turn =>
    rintro i v' m₂ ys led h4 tk4 oI E' hi hv ⟨rfl, hy⟩ hoff ⟨F4, oC, hC, N4, off4, ne4⟩
    obtain ⟨hi', hP2⟩ := R.val hi hv
    have hx : (fun y => if y = Str.ofString "other" then some v' else m₂ y) (Str.ofString "other") = some v' := if_pos rfl
    have hyl := hy.length
    clear F N V st c hI
    refine tests_one ?_
    k_steps
    · rename (ps[i] ≠ p) => ht
      refine CEnd.same (by assumption) (by assumption) hC off4 hoff ne4 ⟨⟨rfl, ?_⟩, .inr ⟨listOf vs.toArray np, by k_mem, rfl, _, rfl⟩, ?_⟩
      · show PAll dat _ (rest (ps.take (i + 1)) p)
        rw [rest_pos hi' ht]
        exact hy.append (.one hP2)
      · have := rest_len (ps.take i) p
        rw [List.length_take] at this
        omega
    · rename (¬ ps[i] ≠ p) => ht
      refine CEnd.same (by assumption) (by assumption) hC off4 hoff ne4 ⟨rfl, ?_⟩
      show PAll dat _ (rest (ps.take (i + 1)) p)
      rw [rest_neg hi' ht]
      exact hy
  case done =>
    rintro m₂ ys led h4 tk4 ⟨rfl, hy⟩ c4 hoff
    refine ⟨_, _, _, _, _, rfl, c4, ?_⟩
    intro h5 F5 N5 hD5
    have e1 : ps.take vs.toArray.size = ps := by
      rw [List.size_toArray, R.length, List.take_length]
    rw [e1] at hy
    clear F N V st c c4 hI
    k_steps
    refine hret D ys.length ys _ _ hy ?_
    walk_at "my LS"
end
/- L11 -/
section
theorem reset_L11 {prog : Program} {w : World} {A : Around} {env : Env} {Q : Flow → Shared → Prop} {E : Value → Shared → Prop} {s : Shared} (h : Q .next s) : wpAny (model prog w) A (execs [] env) Q E s := by
  k_with_none
  w_top off
  walk1
  exact h
variable {w : World} {loose : List Str} {mean : ExcName → Option Value} {mg mb : Str → Option Value} {h₀ : Heap} {L f : Addr} {cd : Value} {m : Str → Option Value} {dat : List (Addr × Obj)} {s : Shared}
  {Q : Flow → Shared → Prop} {E : Value → Shared → Prop} {v1 v2 v3 v4 v5 v6 : Option Value}
theorem lines_L11_1 : True := by
  k_with "my sub" => (intro q9 hq9; first | exact hq9 | exact .tail _ hq9 | (rcases List.mem_cons.mp hq9 with rfl | hq9 <;> k_mem) | k_mem | exact .tail _ (.tail _ hq9) | exact .tail _ (.tail _ (.tail _ hq9)) | exact .tail _ (.tail _ (.tail _ (.tail _ hq9))) | (simp only [List.mem_append, List.mem_cons] at hq9 ⊢; grind))
  k_with "my pall" => first | assumption | exact PAll.mono (by assumption) (by walk_at "my sub")
  k_with "my pin" => first | assumption | exact PIn.mono (by assumption) (by walk_at "my sub")
  k_with "call builtin:len" => (k_here; (with_reducible show wpAny _ _ (call (Value.builtin "len") [Value.ref _]) _ _ _); k_dflt (refine' my_lenP ?k1 ?k2 ?k3 ?k4 ?_; (case k1 => k_asm); (case k2 => k_mem); (case k3 => assumption); (case k4 => omega)); intro _ _; (try dsimp only))
  k_with "my item" => (k_here; (with_reducible show wpAny _ _ (subscriptTail _ _ (Value.ref _) (Value.int _ _)) _ _ _); k_dflt (refine' my_itemA ?k1 ?k2 ?k3 ?k4 ?k5 ?k6 ?_ ?k8 ?k9; (case k1 => k_asm); (case k2 => k_mem); (case k3 => assumption); (case k4 => omega); (case k5 => omega); (case k6 => omega); (case k8 => with_unfolding_all rfl); (case k9 => (intro _; with_unfolding_all rfl))); intro _ _)
  k_with "compareOp Lt" => (k_here; (with_reducible show wpAny _ _ (compareOp CmpOp.Lt _ _) _ _ _); k_dflt (refine' my_lt ?k1 ?k2 ?k3 ?k4 ?_; (case k1 => k_asm); (case k2 => walk_at "my pin"); (case k3 => walk_at "my pin"); (case k4 => ktr_units)))
  k_with "compareOp NotEq" => (k_here; (with_reducible show wpAny _ _ (compareOp CmpOp.NotEq _ _) _ _ _); k_dflt (refine' my_ne ?k1 ?k2 ?k3 ?k4 ?_; (case k1 => k_asm); (case k2 => walk_at "my pin"); (case k3 => walk_at "my pin"); (case k4 => ktr_units)))
  k_with "binaryOp Add ref ref" => (k_here; (with_reducible show wpAny _ _ (binaryOp _ (Value.ref _) (Value.ref _)) _ _ _); k_dflt (refine' my_addP ?k1 ?k2 ?k3 ?k4 ?k7 ?k8 ?k5 ?k6 ?_; (case k1 => k_asm); (case k2 => k_asm); (case k3 => k_mem); (case k4 => k_mem); (case k7 => assumption); (case k8 => walk_at "my pall"); (case k5 => omega); (case k6 => omega)); intro _ _ _ _ _ _ _; (try k_sweep); (try dsimp only))
  k_with "subscriptTail Name Slice ref ref" => (k_here; (with_reducible show wpAny _ _ (subscriptTail _ (PySem.Expr.Slice none none (some _) _) (Value.ref _) (Value.ref _)) _ _ _); k_dflt (refine' my_rev ?k1 ?k2 ?k3 ?k4 ?k5 ?_ ?k8 ?k9; (case k1 => k_asm); (case k2 => k_asm); (case k3 => k_mem); (case k4 => exact IsPart.int _ _); (case k5 => omega); (case k8 => with_unfolding_all rfl); (case k9 => (intro _; with_unfolding_all rfl))); intro _ _ _ _ _; (try k_sweep); (try dsimp only))
  k_with "call ref" => (k_here; (with_reducible show wpAny _ _ (call (Value.ref 53) _) _ _ _); k_dflt (refine' turn_ok ?k1 ?k2 ?k3 ?k4 ?k5 ?k6 ?k7 ?k8 ?k9 ?k10 ?k11 ?k12 ?k13 ?k14 ?_; (case k1 => k_asm); (case k2 => k_asm); (case k3 => k_asm); (case k4 => k_asm); (case k5 => k_asm); (case k6 => first | exact rfl | assumption); (case k7 => ktr_room); (case k8 => ktr_units); (case k9 => walk_at "my pin"); (case k10 => walk_at "my pin"); (case k11 => walk_at "my pin"); (case k12 => walk_at "my bd"); (case k13 => walk_at "my bd"); (case k14 => walk_at "my bd")); intro _ _ _ _ _; (try dsimp only))
  k_with "my bd" => first | assumption | (refine bd_at ?_ ?_ ?_ <;> first | assumption | omega)
  k_with "call ref" => (k_here; (with_reducible show wpAny _ _ (call (Value.ref 60) _) _ _ _); k_dflt (refine' half_ok ?k1 ?k2 ?k3 ?k4 ?k5 ?k6 ?k7 ?k8 ?k9 ?k13 ?k10 ?k11 ?k12 ?_; (case k1 => k_asm); (case k2 => k_asm); (case k3 => k_asm); (case k4 => k_asm); (case k5 => k_asm); (case k6 => first | exact rfl | assumption); (case k7 => ktr_room); (case k8 => ktr_units); (case k9 => k_mem); (case k10 => first | assumption | exact PAll.reverse (by assumption)); (case k13 => walk_at "my sub"); (case k11 => walk_at "my bds"); (case k12 => walk_at "my len")); intro _ _ _ _ _ _ _ _ _; (try dsimp only))
  k_with "my bds" => assumption
  k_with "my len" => first | omega | (simp only [List.length_append, List.length_cons, List.length_nil, List.length_reverse, List.length_map] at *; omega)
  k_with "my law" => (dsimp only [lawBody, lawScope, fdBody, fdScope, nth, PySem.Challenge.pw_zz0003_01])
  k_with "my LS" => (refine' LS.of ?F9 ?N9 ?d1 ?d2 ?d3 ?d4 ?d5 ?d6 ?m6 ?m5 ?m4 ?m3 ?m2 ?m1 ?hs ?off; (case F9 => assumption); (case N9 => assumption); (case m6 => k_mem); (case m5 => k_mem); (case m4 => k_mem); (case m3 => k_mem); (case m2 => k_mem); (case m1 => k_mem); (case d1 => assumption); (case d2 => assumption); (case d3 => assumption); (case d4 => assumption); (case d5 => assumption); (case d6 => assumption); (case hs => walk_at "my sub"); (case off => walk_at "my off"))
  k_with "my off" => first | assumption | (refine off_add ?_ (by omega); walk_at "my off")
  k_with "subscriptTail Name Slice ref ref" => (k_here; (with_reducible show wpAny _ _ (subscriptTail _ (PySem.Expr.Slice (some _) none none _) (Value.ref _) (Value.ref _)) _ _ _); k_dflt (refine' my_from (j := 2) ?k1 ?k2 ?k3 ?k4 ?k5 ?k6 ?_ ?k8 ?k9; (case k1 => k_asm); (case k2 => k_asm); (case k3 => k_mem); (case k4 => exact IsPart.int _ _); (case k5 => exact IsPart.none); (case k6 => walk_at "my len"); (case k8 => with_unfolding_all rfl); (case k9 => (intro _; with_unfolding_all rfl))); intro _ _ _ _ _; (try k_sweep); (try dsimp only))
  k_with "call ref" => (k_here; (with_reducible show wpAny _ _ (call (Value.ref 81) _) _ _ _); k_dflt (refine' size_ok ?k1 ?k2 ?k3 ?k4 ?k5 ?k6 ?k7 ?k8 ?k9 ?k10 ?k11 ?k12 ?k13 ?k14 ?_; (case k1 => k_asm); (case k2 => k_asm); (case k3 => k_asm); (case k4 => k_asm); (case k5 => k_asm); (case k6 => first | exact rfl | assumption); (case k7 => ktr_room); (case k8 => ktr_units); (case k9 => k_mem); (case k10 => walk_at "my pall"); (case k11 => walk_at "my bds"); (case k12 => omega); (case k13 => omega); (case k14 => omega)); intro _ _ _ _ _; (try dsimp only))
  trivial
theorem seg11 {lr nr : Nat} {ws : List Value} {rs : List Pt}
    (B : Below callerA h₀ [] h₀) (X : (hd.heap_39 w.params).In h₀) (T : Top hd.view_39 loose mean mg mb h₀)
    (H : LS h₀ L m v1 v2 (some (.ref lr)) v4 v5 v6 dat s.heap)
    (hl2 : (lr, listOf ws.toArray nr) ∈ dat) (R2 : PAll dat ws rs) (bd2 : ∀ p ∈ rs, Bd p) (hz2 : rs.length ≤ 6)
    (hret : ∀ D c ys h' tk', IntsAre ys ((List.range rs.length).map fun (k : Nat) => areaTo rs (k : Int) rs.length) → LS h₀ L m v1 v2 (some (.ref lr)) v4 v5 (some (.ref D)) ((D, listOf ys.toArray c) :: dat) h' → Q .next { s with heap := h', toks := tk' }) :
    wpAny (model PySem.Challenge.rw_zz0003_01.row.prog w) (callerA.deeper (lawEnv L f cd)) (exec (nth lawBody 11) (lawEnv L f cd)) Q E s := by
  revert X; k_fill; intro X
  walk_at "my law"
  have hvl := R2.length
  obtain ⟨F, ⟨o1, o2, o3, o4, o5, o6, d1, d2, d3, d4, d5, d6, N⟩, off⟩ := H
  k_steps
  refine Stop.go ?_
  refine comp_eval (h₀ := h₀) (L := L) (by intro _; with_unfolding_all rfl) (by with_unfolding_all rfl) (by decide) (by rfl) (by decide) ?_
  k_steps
  refine Stop.go ?_
  rename IsRange _ _ _ _ _ _ _ _ => hR
  rename Fr _ _ _ _ => F1
  rename News _ _ _ _ => N1
  refine top_range (b := rs.length) rfl F1 N1 hR (by omega) ?_
  intro I C D h2 h3 tk3 V st c hI hCI hDI hCa hDa hDs
  have hlt6 : @LT.lt Nat _ (L + 1 + 1 + 1 + 1 + 1 + 1) D := Nat.lt_of_lt_of_le (Heap.lt_size (N1 _ (.head _)).1) hDs
  refine level_last (by rfl) (by rfl) (by rfl) (by rfl) V hCI hDI hCa hDa (Jfix _ fun i ys => IntsAre ys ((List.range i).map fun (k : Nat) => areaTo rs (k : Int) rs.length) ∧ i ≤ rs.length) ?hS st c hI ⟨rfl, .nil, Nat.zero_le _⟩ ?turn ?done
  case hS =>
    rintro i m₂ ys led ⟨rfl, hy, hi⟩
    refine ⟨trivial, ?_⟩
    have := ints_len hy
    rw [List.length_map, List.length_range] at this
    omega
  case turn =>
    rintro i v m₂ ys led h4 tk4 oI E' hi ⟨t9, rfl⟩ ⟨rfl, hy, _⟩ hoff ⟨F4, oC, hC, N4, off4, ne4⟩
    have e1 : (0 : Int) + (i : Int) = (i : Int) := by omega
    rw [e1] at hC
    have hx : (fun y => if y = Str.ofString "start" then some (Value.int (i : Int) t9) else m₂ y) (Str.ofString "start") = some (Value.int (i : Int) t9) := if_pos rfl
    clear F1 N1 V st c hR hI
    refine tests_nil ?_
    k_steps
    refine CEnd.same (by assumption) (by assumption) hC off4 hoff ne4 ⟨⟨rfl, ?_, hi⟩, trivial, ?_⟩
    · rw [List.range_succ, List.map_append]
      exact ints_snoc hy _ _
    · have := ints_len hy
      rw [List.length_map, List.length_range] at this
      omega
  case done =>
    rintro m₂ ys led h4 tk4 ⟨rfl, hy, _⟩ c4 hoff
    refine ⟨_, _, _, _, _, rfl, c4, ?_⟩
    intro h5 F5 N5 hD5
    clear F1 N1 V st c c4 hR hI
    k_steps
    refine hret D ys.length ys _ _ hy ?_
    walk_at "my LS"
end
section
local macro_rules | `(tactic| walk_at "my idle") => `(tactic| skip)
local macro_rules | `(tactic| walk_at "my idle") => `(tactic| skip)
local macro_rules | `(tactic| walk_at "my idle") => `(tactic| skip)
local macro_rules | `(tactic| walk_at "exec Assign cons ListComp") => `(tactic| (k_here; refine Stop.of ?_))
/- L40 -/
section
theorem reset_L40 {prog : Program} {w : World} {A : Around} {env : Env} {Q : Flow → Shared → Prop} {E : Value → Shared → Prop} {s : Shared} (h : Q .next s) : wpAny (model prog w) A (execs [] env) Q E s := by
  k_with_none
  w_top off
  walk1
  exact h
variable {w : World} {loose : List Str} {mean : ExcName → Option Value} {mg mb : Str → Option Value} {h₀ : Heap} {L f : Addr} {cd : Value} {m : Str → Option Value} {dat : List (Addr × Obj)} {s : Shared}
  {Q : Flow → Shared → Prop} {E : Value → Shared → Prop} {v1 v2 v3 v4 v5 v6 : Option Value}
theorem lines_L40_1 : True := by
  k_with "my sub" => (intro q9 hq9; first | exact hq9 | exact .tail _ hq9 | (rcases List.mem_cons.mp hq9 with rfl | hq9 <;> k_mem) | k_mem | exact .tail _ (.tail _ hq9) | exact .tail _ (.tail _ (.tail _ hq9)) | exact .tail _ (.tail _ (.tail _ (.tail _ hq9))) | (simp only [List.mem_append, List.mem_cons] at hq9 ⊢; grind))
  k_with "my pall" => first | assumption | exact PAll.mono (by assumption) (by walk_at "my sub")
  k_with "my pin" => first | assumption | exact PIn.mono (by assumption) (by walk_at "my sub")
  k_with "call builtin:len" => (k_here; (with_reducible show wpAny _ _ (call (Value.builtin "len") [Value.ref _]) _ _ _); k_dflt (refine' my_lenP ?k1 ?k2 ?k3 ?k4 ?_; (case k1 => k_asm); (case k2 => k_mem); (case k3 => assumption); (case k4 => omega)); intro _ _; (try dsimp only))
  k_with "my item" => (k_here; (with_reducible show wpAny _ _ (subscriptTail _ _ (Value.ref _) (Value.int _ _)) _ _ _); k_dflt (refine' my_itemA ?k1 ?k2 ?k3 ?k4 ?k5 ?k6 ?_ ?k8 ?k9; (case k1 => k_asm); (case k2 => k_mem); (case k3 => assumption); (case k4 => omega); (case k5 => omega); (case k6 => omega); (case k8 => with_unfolding_all rfl); (case k9 => (intro _; with_unfolding_all rfl))); intro _ _)
  k_with "compareOp Lt" => (k_here; (with_reducible show wpAny _ _ (compareOp CmpOp.Lt _ _) _ _ _); k_dflt (refine' my_lt ?k1 ?k2 ?k3 ?k4 ?_; (case k1 => k_asm); (case k2 => walk_at "my pin"); (case k3 => walk_at "my pin"); (case k4 => ktr_units)))
  k_with "compareOp NotEq" => (k_here; (with_reducible show wpAny _ _ (compareOp CmpOp.NotEq _ _) _ _ _); k_dflt (refine' my_ne ?k1 ?k2 ?k3 ?k4 ?_; (case k1 => k_asm); (case k2 => walk_at "my pin"); (case k3 => walk_at "my pin"); (case k4 => ktr_units)))
  k_with "binaryOp Add ref ref" => (k_here; (with_reducible show wpAny _ _ (binaryOp _ (Value.ref _) (Value.ref _)) _ _ _); k_dflt (refine' my_addP ?k1 ?k2 ?k3 ?k4 ?k7 ?k8 ?k5 ?k6 ?_; (case k1 => k_asm); (case k2 => k_asm); (case k3 => k_mem); (case k4 => k_mem); (case k7 => assumption); (case k8 => walk_at "my pall"); (case k5 => omega); (case k6 => omega)); intro _ _ _ _ _ _ _; (try k_sweep); (try dsimp only))
  k_with "subscriptTail Name Slice ref ref" => (k_here; (with_reducible show wpAny _ _ (subscriptTail _ (PySem.Expr.Slice none none (some _) _) (Value.ref _) (Value.ref _)) _ _ _); k_dflt (refine' my_rev ?k1 ?k2 ?k3 ?k4 ?k5 ?_ ?k8 ?k9; (case k1 => k_asm); (case k2 => k_asm); (case k3 => k_mem); (case k4 => exact IsPart.int _ _); (case k5 => omega); (case k8 => with_unfolding_all rfl); (case k9 => (intro _; with_unfolding_all rfl))); intro _ _ _ _ _; (try k_sweep); (try dsimp only))
  k_with "call ref" => (k_here; (with_reducible show wpAny _ _ (call (Value.ref 53) _) _ _ _); k_dflt (refine' turn_ok ?k1 ?k2 ?k3 ?k4 ?k5 ?k6 ?k7 ?k8 ?k9 ?k10 ?k11 ?k12 ?k13 ?k14 ?_; (case k1 => k_asm); (case k2 => k_asm); (case k3 => k_asm); (case k4 => k_asm); (case k5 => k_asm); (case k6 => first | exact rfl | assumption); (case k7 => ktr_room); (case k8 => ktr_units); (case k9 => walk_at "my pin"); (case k10 => walk_at "my pin"); (case k11 => walk_at "my pin"); (case k12 => walk_at "my bd"); (case k13 => walk_at "my bd"); (case k14 => walk_at "my bd")); intro _ _ _ _ _; (try dsimp only))
  k_with "my bd" => first | assumption | (refine bd_at ?_ ?_ ?_ <;> first | assumption | omega)
  k_with "call ref" => (k_here; (with_reducible show wpAny _ _ (call (Value.ref 60) _) _ _ _); k_dflt (refine' half_ok ?k1 ?k2 ?k3 ?k4 ?k5 ?k6 ?k7 ?k8 ?k9 ?k13 ?k10 ?k11 ?k12 ?_; (case k1 => k_asm); (case k2 => k_asm); (case k3 => k_asm); (case k4 => k_asm); (case k5 => k_asm); (case k6 => first | exact rfl | assumption); (case k7 => ktr_room); (case k8 => ktr_units); (case k9 => k_mem); (case k10 => first | assumption | exact PAll.reverse (by assumption)); (case k13 => walk_at "my sub"); (case k11 => walk_at "my bds"); (case k12 => walk_at "my len")); intro _ _ _ _ _ _ _ _ _; (try dsimp only))
  k_with "my bds" => assumption
  k_with "my len" => first | omega | (simp only [List.length_append, List.length_cons, List.length_nil, List.length_reverse, List.length_map] at *; omega)
  k_with "my law" => (dsimp only [lawBody, lawScope, fdBody, fdScope, nth, PySem.Challenge.pw_zz0003_01])
  k_with "my LS" => (refine' LS.of ?F9 ?N9 ?d1 ?d2 ?d3 ?d4 ?d5 ?d6 ?m6 ?m5 ?m4 ?m3 ?m2 ?m1 ?hs ?off; (case F9 => assumption); (case N9 => assumption); (case m6 => k_mem); (case m5 => k_mem); (case m4 => k_mem); (case m3 => k_mem); (case m2 => k_mem); (case m1 => k_mem); (case d1 => assumption); (case d2 => assumption); (case d3 => assumption); (case d4 => assumption); (case d5 => assumption); (case d6 => assumption); (case hs => walk_at "my sub"); (case off => walk_at "my off"))
  k_with "my off" => first | assumption | (refine off_add ?_ (by omega); walk_at "my off")
  k_with "subscriptTail Name Slice ref ref" => (k_here; (with_reducible show wpAny _ _ (subscriptTail _ (PySem.Expr.Slice (some _) none none _) (Value.ref _) (Value.ref _)) _ _ _); k_dflt (refine' my_from (j := 2) ?k1 ?k2 ?k3 ?k4 ?k5 ?k6 ?_ ?k8 ?k9; (case k1 => k_asm); (case k2 => k_asm); (case k3 => k_mem); (case k4 => exact IsPart.int _ _); (case k5 => exact IsPart.none); (case k6 => walk_at "my len"); (case k8 => with_unfolding_all rfl); (case k9 => (intro _; with_unfolding_all rfl))); intro _ _ _ _ _; (try k_sweep); (try dsimp only))
  trivial
open PyProof.Rows.LCg (SrcAt)
theorem setN {v : Value} {Q : Unit → Shared → Prop} (H : LS h₀ L m v1 v2 v3 v4 v5 v6 dat s.heap) (hret : ∀ h' tk', LS h₀ L (fun y => if y = Str.ofString "number" then some v else m y) v1 v2 v3 v4 v5 v6 dat h' → Q () { s with heap := h', toks := tk' }) :
    wpAny (model PySem.Challenge.rw_zz0003_01.row.prog w) (callerA.deeper (lawEnv L f cd)) (storeName (lawEnv L f cd) (Str.ofString "number") v) Q E s := by
  obtain ⟨F, ⟨o1, o2, o3, o4, o5, o6, d1, d2, d3, d4, d5, d6, N⟩, off⟩ := H
  refine wpAny_storeName_local (by rfl) F.ns (fun h' hn hs => ?_) (by rfl)
  exact hret h' _ ⟨F.set hn hs, ⟨o1, o2, o3, o4, o5, o6, d1, d2, d3, d4, d5, d6, N.set hs⟩, off⟩
section
variable {px : Pos} {body : List Stmt} {ER : Value → Shared → Prop}
def ForEnd1 (Q : Flow → Shared → Prop) (s : Shared) (h₀ : Heap) (L : Addr) (v3 v4 v5 v6 : Option Value) (I : Addr) (oI : Obj) (J : Option Value → List (Addr × Obj) → Prop) (f : Flow) (s' : Shared) : Prop :=
  match f with
  | .next | .cont => ∃ h' tk' m v1 v2 dat, s' = { s with heap := h', toks := tk' } ∧ LS h₀ L m v1 v2 v3 v4 v5 v6 ((I, oI) :: dat) h' ∧ (∀ p ∈ dat, p.1 ≠ I) ∧ J v1 dat
  | .brk => Q .next s'
  | .ret v => Q (.ret v) s'
theorem for1_list {ax c : Nat} {vs : List Value} (J : Nat → Option Value → List (Addr × Obj) → Prop) (hh : (callerA.deeper (lawEnv L f cd)).handled = none) (H : LS h₀ L m v1 v2 v3 v4 v5 v6 dat s.heap) (hm : ∀ i v1 dat, J i v1 dat → (ax, listOf vs.toArray c) ∈ dat) (h0 : J 0 v1 dat)
    (turn : ∀ (i : Nat) v (m : Str → Option Value) v1 v2 dat h tk I oI (E' : Value → Shared → Prop), i < vs.toArray.size → vs.toArray[i]? = some v → @LT.lt Nat _ (L + 1 + 1 + 1 + 1 + 1 + 1) I → (∀ p ∈ dat, p.1 ≠ I) → J i v1 dat → LS h₀ L (fun y => if y = Str.ofString "number" then some v else m y) v1 v2 v3 v4 v5 v6 ((I, oI) :: dat) h →
      wpAny (model PySem.Challenge.rw_zz0003_01.row.prog w) (callerA.deeper (lawEnv L f cd)) (execs body (lawEnv L f cd)) (ForEnd1 Q { s with heap := h, toks := tk } h₀ L v3 v4 v5 v6 I oI (J (i + 1))) E' { s with heap := h, toks := tk })
    (done : ∀ m v1 v2 dat h tk, J vs.toArray.size v1 dat → LS h₀ L m v1 v2 v3 v4 v5 v6 dat h → Q .next { s with heap := h, toks := tk }) :
    wpAny (model PySem.Challenge.rw_zz0003_01.row.prog w) (callerA.deeper (lawEnv L f cd)) (pyIter (.ref ax)) (fun it s₂ => codeAny (model PySem.Challenge.rw_zz0003_01.row.prog w) (callerA.deeper (lawEnv L f cd)) (.forLoop (.Name (Str.ofString "number") px) it body [] (lawEnv L f cd))
      (fun r s' => match r with | .ok f => Q f s' | .error e => ER e s') s₂) E s := by
  refine iter_list hh H.F H.news (hm _ _ _ h0) fun I h' V st keep ne lt => ?_
  have hI : ∀ p ∈ dat, p.1 ≠ I := fun p hp => ne _ (Heap.lt_size (H.news p hp).1)
  have hsz : s.heap.objs.size ≤ I := by
    rcases Nat.lt_or_ge I s.heap.objs.size with h | h
    · exact absurd rfl (ne _ h)
    · exact h
  have hL : @LT.lt Nat _ (L + 1 + 1 + 1 + 1 + 1 + 1) I := Nat.lt_of_lt_of_le H.top hsz
  have src : ∀ {i v1 dat}, J i v1 dat → SrcAt h₀ ax vs.toArray dat := fun j => .inr ⟨_, hm _ _ _ j, rfl, _, rfl⟩
  refine cell_for (s := { s with heap := h' }) (fun i h => ∃ m v1 v2 dat, LS h₀ L m v1 v2 v3 v4 v5 v6 dat h ∧ (∀ p ∈ dat, p.1 ≠ I) ∧ J i v1 dat) (fun i v h => ∃ (oI : Obj) (m : Str → Option Value) (v1 v2 : Option Value) (dat : List (Addr × Obj)), StL I ax vs (i + 1) h ∧ LS h₀ L (fun y => if y = Str.ofString "number" then some v else m y) v1 v2 v3 v4 v5 v6 ((I, oI) :: dat) h ∧ (∀ p ∈ dat, p.1 ≠ I) ∧ J i v1 dat) V.W st ⟨m, v1, v2, dat, H.keeps keep, hI, h0⟩ ?_ ?_ ?_ ?_
  · rintro i h h2 ⟨m, v1, v2, dat, H', hI, hJ⟩ hk
    exact ⟨m, v1, v2, dat, H'.step hI hL V.new hk, hI, hJ⟩
  · rintro i v h tk Q' E' hi hP hst ⟨m, v1, v2, dat, H', hI, hJ⟩ k
    obtain ⟨oI, eI⟩ := V.io _ _ hst
    exact setN (s := { s with heap := h, toks := tk }) (H'.add eI hL V.new) fun h2 tk2 H2 => k h2 _ ⟨oI, m, v1, v2, dat, V.st _ _ _ _ _ hst eI (H2.news _ (.head _)).1 H2.F.keep (fun p hp => H2.news p (.tail _ hp)) (src hJ), H2, hI, hJ⟩
  · rintro i v h tk E' hi hv ⟨oI, m, v1, v2, dat, hst, H', hI, hJ⟩
    have eI := (H'.news _ (.head _)).1
    refine wpAny_mono (turn i v m v1 v2 dat h tk I oI E' hi hv hL hI hJ H') (fun f s' h => ?_) fun _ _ e => e
    cases f with
    | ret v => exact h
    | brk => exact h
    | next =>
      obtain ⟨h2, tk2, m2, v12, v22, dat2, rfl, H2, hI2, hJ2⟩ := h
      exact ⟨h2, tk2, rfl, V.st _ _ _ _ _ hst eI (H2.news _ (.head _)).1 H2.F.keep (fun p hp => H2.news p (.tail _ hp)) (src hJ2), m2, v12, v22, dat2, H2.sub fun q hq => .tail _ hq, hI2, hJ2⟩
    | cont =>
      obtain ⟨h2, tk2, m2, v12, v22, dat2, rfl, H2, hI2, hJ2⟩ := h
      exact ⟨h2, tk2, rfl, V.st _ _ _ _ _ hst eI (H2.news _ (.head _)).1 H2.F.keep (fun p hp => H2.news p (.tail _ hp)) (src hJ2), m2, v12, v22, dat2, H2.sub fun q hq => .tail _ hq, hI2, hJ2⟩
  · rintro h tk ⟨m, v1, v2, dat, H', hI, hJ⟩
    exact done m v1 v2 dat h tk hJ H'
end
theorem seg0 (B : Below callerA h₀ [] h₀) (X : (hd.heap_39 w.params).In h₀) (T : Top hd.view_39 loose mean mg mb h₀)
    (H : LS h₀ L m v1 v2 v3 v4 v5 v6 [] s.heap)
    (hret : ∀ D h' tk', LS h₀ L m (some (.ref D)) v2 v3 v4 v5 v6 [(D, listOf ([] : List Value).toArray 0)] h' → Q .next { s with heap := h', toks := tk' }) :
    wpAny (model PySem.Challenge.rw_zz0003_01.row.prog w) (callerA.deeper (lawEnv L f cd)) (exec (nth lawBody 0) (lawEnv L f cd)) Q E s := by
  revert X; k_fill; intro X
  walk_at "my law"
  obtain ⟨F, ⟨o1, o2, o3, o4, o5, o6, d1, d2, d3, d4, d5, d6, N⟩, off⟩ := H
  k_steps
  rename_i D9 h8 l1 h9 o9 F9 N9 d9
  refine hret D9 _ _ ?_
  walk_at "my LS"
end
/- L41 -/
section
theorem reset_L41 {prog : Program} {w : World} {A : Around} {env : Env} {Q : Flow → Shared → Prop} {E : Value → Shared → Prop} {s : Shared} (h : Q .next s) : wpAny (model prog w) A (execs [] env) Q E s := by
  k_with_none
  w_top off
  walk1
  exact h
variable {w : World} {loose : List Str} {mean : ExcName → Option Value} {mg mb : Str → Option Value} {h₀ : Heap} {L f : Addr} {cd : Value} {m : Str → Option Value} {dat : List (Addr × Obj)} {s : Shared}
  {Q : Flow → Shared → Prop} {E : Value → Shared → Prop} {v1 v2 v3 v4 v5 v6 : Option Value}
theorem lines_L41_1 : True := by
  k_with "my sub" => (intro q9 hq9; first | exact hq9 | exact .tail _ hq9 | (rcases List.mem_cons.mp hq9 with rfl | hq9 <;> k_mem) | k_mem | exact .tail _ (.tail _ hq9) | exact .tail _ (.tail _ (.tail _ hq9)) | exact .tail _ (.tail _ (.tail _ (.tail _ hq9))) | (simp only [List.mem_append, List.mem_cons] at hq9 ⊢; grind))
  k_with "my pall" => first | assumption | exact PAll.mono (by assumption) (by walk_at "my sub")
  k_with "my pin" => first | assumption | exact PIn.mono (by assumption) (by walk_at "my sub")
  k_with "call builtin:len" => (k_here; (with_reducible show wpAny _ _ (call (Value.builtin "len") [Value.ref _]) _ _ _); k_dflt (refine' my_lenP ?k1 ?k2 ?k3 ?k4 ?_; (case k1 => k_asm); (case k2 => k_mem); (case k3 => assumption); (case k4 => omega)); intro _ _; (try dsimp only))
  k_with "my item" => (k_here; (with_reducible show wpAny _ _ (subscriptTail _ _ (Value.ref _) (Value.int _ _)) _ _ _); k_dflt (refine' my_itemA ?k1 ?k2 ?k3 ?k4 ?k5 ?k6 ?_ ?k8 ?k9; (case k1 => k_asm); (case k2 => k_mem); (case k3 => assumption); (case k4 => omega); (case k5 => omega); (case k6 => omega); (case k8 => with_unfolding_all rfl); (case k9 => (intro _; with_unfolding_all rfl))); intro _ _)
  k_with "compareOp Lt" => (k_here; (with_reducible show wpAny _ _ (compareOp CmpOp.Lt _ _) _ _ _); k_dflt (refine' my_lt ?k1 ?k2 ?k3 ?k4 ?_; (case k1 => k_asm); (case k2 => walk_at "my pin"); (case k3 => walk_at "my pin"); (case k4 => ktr_units)))
  k_with "compareOp NotEq" => (k_here; (with_reducible show wpAny _ _ (compareOp CmpOp.NotEq _ _) _ _ _); k_dflt (refine' my_ne ?k1 ?k2 ?k3 ?k4 ?_; (case k1 => k_asm); (case k2 => walk_at "my pin"); (case k3 => walk_at "my pin"); (case k4 => ktr_units)))
  k_with "binaryOp Add ref ref" => (k_here; (with_reducible show wpAny _ _ (binaryOp _ (Value.ref _) (Value.ref _)) _ _ _); k_dflt (refine' my_addP ?k1 ?k2 ?k3 ?k4 ?k7 ?k8 ?k5 ?k6 ?_; (case k1 => k_asm); (case k2 => k_asm); (case k3 => k_mem); (case k4 => k_mem); (case k7 => assumption); (case k8 => walk_at "my pall"); (case k5 => omega); (case k6 => omega)); intro _ _ _ _ _ _ _; (try k_sweep); (try dsimp only))
  k_with "subscriptTail Name Slice ref ref" => (k_here; (with_reducible show wpAny _ _ (subscriptTail _ (PySem.Expr.Slice none none (some _) _) (Value.ref _) (Value.ref _)) _ _ _); k_dflt (refine' my_rev ?k1 ?k2 ?k3 ?k4 ?k5 ?_ ?k8 ?k9; (case k1 => k_asm); (case k2 => k_asm); (case k3 => k_mem); (case k4 => exact IsPart.int _ _); (case k5 => omega); (case k8 => with_unfolding_all rfl); (case k9 => (intro _; with_unfolding_all rfl))); intro _ _ _ _ _; (try k_sweep); (try dsimp only))
  k_with "call ref" => (k_here; (with_reducible show wpAny _ _ (call (Value.ref 53) _) _ _ _); k_dflt (refine' turn_ok ?k1 ?k2 ?k3 ?k4 ?k5 ?k6 ?k7 ?k8 ?k9 ?k10 ?k11 ?k12 ?k13 ?k14 ?_; (case k1 => k_asm); (case k2 => k_asm); (case k3 => k_asm); (case k4 => k_asm); (case k5 => k_asm); (case k6 => first | exact rfl | assumption); (case k7 => ktr_room); (case k8 => ktr_units); (case k9 => walk_at "my pin"); (case k10 => walk_at "my pin"); (case k11 => walk_at "my pin"); (case k12 => walk_at "my bd"); (case k13 => walk_at "my bd"); (case k14 => walk_at "my bd")); intro _ _ _ _ _; (try dsimp only))
  k_with "my bd" => first | assumption | (refine bd_at ?_ ?_ ?_ <;> first | assumption | omega)
  k_with "call ref" => (k_here; (with_reducible show wpAny _ _ (call (Value.ref 60) _) _ _ _); k_dflt (refine' half_ok ?k1 ?k2 ?k3 ?k4 ?k5 ?k6 ?k7 ?k8 ?k9 ?k13 ?k10 ?k11 ?k12 ?_; (case k1 => k_asm); (case k2 => k_asm); (case k3 => k_asm); (case k4 => k_asm); (case k5 => k_asm); (case k6 => first | exact rfl | assumption); (case k7 => ktr_room); (case k8 => ktr_units); (case k9 => k_mem); (case k10 => first | assumption | exact PAll.reverse (by assumption)); (case k13 => walk_at "my sub"); (case k11 => walk_at "my bds"); (case k12 => walk_at "my len")); intro _ _ _ _ _ _ _ _ _; (try dsimp only))
  k_with "my bds" => assumption
  k_with "my len" => first | omega | (simp only [List.length_append, List.length_cons, List.length_nil, List.length_reverse, List.length_map] at *; omega)
  k_with "my law" => (dsimp only [lawBody, lawScope, fdBody, fdScope, nth, PySem.Challenge.pw_zz0003_01])
  k_with "my LS" => (refine' LS.of ?F9 ?N9 ?d1 ?d2 ?d3 ?d4 ?d5 ?d6 ?m6 ?m5 ?m4 ?m3 ?m2 ?m1 ?hs ?off; (case F9 => assumption); (case N9 => assumption); (case m6 => k_mem); (case m5 => k_mem); (case m4 => k_mem); (case m3 => k_mem); (case m2 => k_mem); (case m1 => k_mem); (case d1 => assumption); (case d2 => assumption); (case d3 => assumption); (case d4 => assumption); (case d5 => assumption); (case d6 => assumption); (case hs => walk_at "my sub"); (case off => walk_at "my off"))
  k_with "my off" => first | assumption | (refine off_add ?_ (by omega); walk_at "my off")
  k_with "subscriptTail Name Slice ref ref" => (k_here; (with_reducible show wpAny _ _ (subscriptTail _ (PySem.Expr.Slice (some _) none none _) (Value.ref _) (Value.ref _)) _ _ _); k_dflt (refine' my_from (j := 2) ?k1 ?k2 ?k3 ?k4 ?k5 ?k6 ?_ ?k8 ?k9; (case k1 => k_asm); (case k2 => k_asm); (case k3 => k_mem); (case k4 => exact IsPart.int _ _); (case k5 => exact IsPart.none); (case k6 => walk_at "my len"); (case k8 => with_unfolding_all rfl); (case k9 => (intro _; with_unfolding_all rfl))); intro _ _ _ _ _; (try k_sweep); (try dsimp only))
  trivial
theorem my_notInT {prog : Program} {A : Around} {E : Value → Shared → Prop} {Q : Value → Shared → Prop} {news nw : List (Addr × Obj)} {D c a k : Nat} {us : List Value} {ps : List Pt} {x y : Int} {t u : Tok} (N : News h₀ L s.heap news) (hm : (D, listOf us.toArray c) ∈ news) (R : PAll nw us ps) (hs : ∀ q ∈ nw, q ∈ news)
    (ha : (a, ({ cls := .type "tuple", data := .seq #[.int x t, .int y u] k } : Obj)) ∈ news) (hu : A.units + 64 < cLine) (h : Q (.bool (decide ((x, y) ∉ ps))) s) :
    wpAny (model prog w) A (compareOp .NotIn (.ref a) (.ref D)) Q E s :=
  my_notIn N hm R hs (nw2 := news) ⟨a, k, t, u, rfl, ha⟩ (fun q hq => hq) hu h
theorem ints_at {ys : List Value} {ss : List Int} {i : Nat} {v : Value} (R : IntsAre ys ss) (hi : i < ys.toArray.size) (hv : ys.toArray[i]? = some v) : ∃ (h : i < ss.length) (t : Tok), v = .int ss[i] t := by
  have hv' : ys[i]? = some v := by simpa using hv
  clear hv hi
  induction R generalizing i with
  | nil => simp at hv'
  | cons n t r ih =>
    cases i with
    | zero => simp only [List.getElem?_cons_zero, Option.some.injEq] at hv'; exact ⟨by simp, t, hv'.symm⟩
    | succ i =>
      simp only [List.getElem?_cons_succ] at hv'
      obtain ⟨h, t', e⟩ := ih hv'
      exact ⟨by simpa using h, t', by simpa using e⟩
local macro_rules | `(tactic| walk_at "binaryOp Add ref ref") => `(tactic| (k_here; refine Stop.of ?_))
theorem lines_L41_2 : True := by
  k_with "compareOp NotIn" => (k_here; (with_reducible show wpAny _ _ (compareOp CmpOp.NotIn (Value.ref _) (Value.ref _)) _ _ _); k_dflt (refine' my_notInT ?k1 ?k2 ?k3 ?k4 ?k5 ?k7 ?_; (case k1 => k_asm); (case k2 => k_mem); (case k3 => assumption); (case k4 => walk_at "my sub"); (case k5 => k_mem); (case k7 => ktr_units)))
  trivial
def ptOf (n : Int) : Pt := (n.fmod 8, (n.fdiv 8).fmod 8)
def addP (ps : List Pt) (n : Int) : List Pt := ps ++ if ptOf n ∈ ps then [] else [ptOf n]
def lawPts (ns : List Int) : List Pt := ns.foldl addP []
theorem lawPts_succ {ns : List Int} {i : Nat} (hi : i < ns.length) : lawPts (ns.take (i + 1)) = addP (lawPts (ns.take i)) ns[i] := by
  rw [lawPts, take_succ_at hi, List.foldl_append]; rfl
theorem lawPts_len : ∀ (ns : List Int) (qs : List Pt), (ns.foldl addP qs).length ≤ qs.length + ns.length
  | [], qs => by simp
  | n :: ns, qs => by
    have h := lawPts_len ns (addP qs n)
    have h2 : (addP qs n).length ≤ qs.length + 1 := by
      unfold addP
      split <;> simp
    rw [List.foldl_cons, List.length_cons]
    omega
theorem seg1 {sl lp : Nat} {us : List Value} {ns : List Int}
    (B : Below callerA h₀ [] h₀) (X : (hd.heap_39 w.params).In h₀) (T : Top hd.view_39 loose mean mg mb h₀)
    (H : LS h₀ L m (some (.ref lp)) v2 v3 v4 v5 v6 [(lp, listOf ([] : List Value).toArray 0)] s.heap)
    (hms : m (Str.ofString "script") = some (.ref sl)) (hL : h₀.IsList sl us.toArray) (hI : IntsAre us ns) (hz : ns.length ≤ 63)
    (hret : ∀ m v2 D c ws nw h' tk', PAll nw ws (lawPts (ns.take 6)) → LS h₀ L m (some (.ref D)) v2 v3 v4 v5 v6 ((D, listOf ws.toArray c) :: nw) h' → Q .next { s with heap := h', toks := tk' }) :
    wpAny (model PySem.Challenge.rw_zz0003_01.row.prog w) (callerA.deeper (lawEnv L f cd)) (exec (nth lawBody 1) (lawEnv L f cd)) Q E s := by
  have X0 := X
  revert X; k_fill; intro X
  walk_at "my law"
  obtain ⟨F, ⟨o1, o2, o3, o4, o5, o6, d1, d2, d3, d4, d5, d6, N⟩, off⟩ := id H
  obtain ⟨m', F'⟩ := fr_known1 (k := Str.ofString "script") F hms
  k_steps
  refine Stop.go ?_
  refine wpAny_For ?_
  clear F
  k_steps
  refine Stop.go ?_
  rename IntsAre _ _ => hI2
  rename (_ ∧ _) => l1
  rename_i D1 ws1 h1 F1 N1 e1 e2
  have hL1 : LS h₀ L (fun y => if y = Str.ofString "script" then some (.ref sl) else m' y) (some (.ref lp)) v2 v3 v4 v5 v6 [(D1, listOf ws1.toArray 0), (lp, listOf ([] : List Value).toArray 0)] h1 := by walk_at "my LS"
  refine for1_list (fun i v1 dat => ∃ D c ws, v1 = some (.ref D) ∧ (D1, listOf ws1.toArray 0) ∈ dat ∧ (D, listOf ws.toArray c) ∈ dat ∧ PAll dat ws (lawPts ((ns.take 6).take i))) rfl hL1 (by rintro i v1 dat ⟨_, _, _, _, h, _⟩; exact h) ⟨lp, 0, [], rfl, .head _, .tail _ (.head _), .nil⟩ ?turn ?done
  case turn =>
    clear F1 N1 hL1 l1 d1 d2 d3 d4 d5 d6 off o1 o2 o3 o4 o5 o6 H
    rintro i v m v1 v2 dat h tk0 I oI E' hi hv hLI hnI ⟨D, c, ws, rfl, hm1, hm2, hP⟩ ⟨F, ⟨o1, o2, o3, o4, o5, o6, d1, d2, d3, d4, d5, d6, N⟩, off⟩
    obtain ⟨hi', t9, rfl⟩ := ints_at hI2 hi hv
    have hlen : (lawPts ((ns.take 6).take i)).length ≤ 6 := by
      have q1 := lawPts_len ((ns.take 6).take i) []
      rw [List.length_take, List.length_take] at q1
      simp only [List.length_nil] at q1
      unfold lawPts
      omega
    have offd : ∀ p ∈ dat, @LT.lt Nat _ (L + 1 + 1 + 1 + 1 + 1 + 1) p.1 := fun p hp => off p (.tail _ hp)
    k_steps
    · refine Stop.go ?_
      rename (¬ (_, _) ∈ lawPts _) => hn
      rename_i T8 h7 l7 h8 o8 d8 W h9 F9 N9 l9
      refine my_addP (nw := (T8, ({ cls := .type "tuple", data := .seq #[.int (ptOf (ns.take 6)[i]).1 (tk0 + 1), .int (ptOf (ns.take 6)[i]).2 (tk0 + 1 + 1 + 1 + 1 + 1)] } : Obj)) :: dat) (ws := [.ref T8]) (qs := [ptOf (ns.take 6)[i]]) (by k_asm) (by k_asm) (by k_mem) (by k_mem) (hP.mono fun q hq => .tail _ hq) (.one ⟨T8, 0, _, _, rfl, .head _⟩) (by omega) (by simp) ?_
      intro D5 us5 h5 F5 N5 l5 R5
      have e5 : lawPts ((ns.take 6).take (i + 1)) = lawPts ((ns.take 6).take i) ++ [ptOf (ns.take 6)[i]] := by
        rw [lawPts_succ hi', addP, if_neg (show ¬ ptOf (ns.take 6)[i] ∈ lawPts ((ns.take 6).take i) from hn)]
      rw [← e5] at R5
      have lT : I < T8 ∧ T8 < D5 ∧ I < D5 ∧ @LT.lt Nat _ (L + 1 + 1 + 1 + 1 + 1 + 1) T8 ∧ @LT.lt Nat _ (L + 1 + 1 + 1 + 1 + 1 + 1) D5 := by
        have q1 := l5 (T8, _) (.tail _ (.head _))
        have q2 := l5 (I, oI) (by k_mem)
        have q3 := l5 (L + 1 + 1 + 1 + 1 + 1 + 1, o6) (by k_mem)
        have q4 := l7.1
        have q5 : I < T8 := by have := l7.2; grind
        exact ⟨q5, q1, q2, q4, q3⟩
      clear N9 F9
      k_steps
      refine ⟨_, _, (fun y => if y = Str.ofString "number" then some (.int (ns.take 6)[i] t9) else m y), _, some (.ref T8), (D5, listOf us5.toArray 0) :: (T8, ({ cls := .type "tuple", data := .seq #[.int (ptOf (ns.take 6)[i]).1 (tk0 + 1), .int (ptOf (ns.take 6)[i]).2 (tk0 + 1 + 1 + 1 + 1 + 1)] } : Obj)) :: dat, rfl, ?_, ?_, ⟨D5, 0, us5, rfl, .tail _ (.tail _ hm1), .head _, R5.mono fun q hq => .tail _ hq⟩⟩
      · rename_i h10 o10 F10 N10 d10
        refine LS.of F10 N10 d10 d8 d3 d4 d5 d6 (by k_mem) (by k_mem) (by k_mem) (by k_mem) (by k_mem) (by k_mem) ?_ ?_
        · intro q hq
          rcases List.mem_cons.mp hq with rfl | hq
          · k_mem
          · rcases List.mem_cons.mp hq with rfl | hq
            · exact .head _
            · rcases List.mem_cons.mp hq with rfl | hq
              · exact .tail _ (.tail _ (.head _))
              · k_mem
        · exact off_add (off_add (off_add offd lT.2.2.2.1) lT.2.2.2.2) hLI
      · intro q hq
        rcases List.mem_cons.mp hq with rfl | hq
        · exact Nat.ne_of_gt lT.2.2.1
        · rcases List.mem_cons.mp hq with rfl | hq
          · exact Nat.ne_of_gt lT.1
          · exact hnI q hq
    · refine Stop.go ?_
      rename (¬ ¬ (_, _) ∈ lawPts _) => hn
      rename_i T8 h7 l7 h8 o8 d8 W h9 F9 N9 l9
      refine my_addP (nw := (T8, ({ cls := .type "tuple", data := .seq #[.int (ptOf (ns.take 6)[i]).1 (tk0 + 1), .int (ptOf (ns.take 6)[i]).2 (tk0 + 1 + 1 + 1 + 1 + 1)] } : Obj)) :: dat) (ws := []) (qs := []) (by k_asm) (by k_asm) (by k_mem) (by k_mem) (hP.mono fun q hq => .tail _ hq) (.nil) (by omega) (by simp) ?_
      intro D5 us5 h5 F5 N5 l5 R5
      have e5 : lawPts ((ns.take 6).take (i + 1)) = lawPts ((ns.take 6).take i) ++ [] := by
        rw [lawPts_succ hi', addP, if_pos (show ptOf (ns.take 6)[i] ∈ lawPts ((ns.take 6).take i) from Decidable.not_not.mp hn)]
      rw [← e5] at R5
      have lT : I < T8 ∧ T8 < D5 ∧ I < D5 ∧ @LT.lt Nat _ (L + 1 + 1 + 1 + 1 + 1 + 1) T8 ∧ @LT.lt Nat _ (L + 1 + 1 + 1 + 1 + 1 + 1) D5 := by
        have q1 := l5 (T8, _) (.tail _ (.head _))
        have q2 := l5 (I, oI) (by k_mem)
        have q3 := l5 (L + 1 + 1 + 1 + 1 + 1 + 1, o6) (by k_mem)
        have q4 := l7.1
        have q5 : I < T8 := by have := l7.2; grind
        exact ⟨q5, q1, q2, q4, q3⟩
      clear N9 F9
      k_steps
      refine ⟨_, _, (fun y => if y = Str.ofString "number" then some (.int (ns.take 6)[i] t9) else m y), _, some (.ref T8), (D5, listOf us5.toArray 0) :: (T8, ({ cls := .type "tuple", data := .seq #[.int (ptOf (ns.take 6)[i]).1 (tk0 + 1), .int (ptOf (ns.take 6)[i]).2 (tk0 + 1 + 1 + 1 + 1 + 1)] } : Obj)) :: dat, rfl, ?_, ?_, ⟨D5, 0, us5, rfl, .tail _ (.tail _ hm1), .head _, R5.mono fun q hq => .tail _ hq⟩⟩
      · rename_i h10 o10 F10 N10 d10
        refine LS.of F10 N10 d10 d8 d3 d4 d5 d6 (by k_mem) (by k_mem) (by k_mem) (by k_mem) (by k_mem) (by k_mem) ?_ ?_
        · intro q hq
          rcases List.mem_cons.mp hq with rfl | hq
          · k_mem
          · rcases List.mem_cons.mp hq with rfl | hq
            · exact .head _
            · rcases List.mem_cons.mp hq with rfl | hq
              · exact .tail _ (.tail _ (.head _))
              · k_mem
        · exact off_add (off_add (off_add offd lT.2.2.2.1) lT.2.2.2.2) hLI
      · intro q hq
        rcases List.mem_cons.mp hq with rfl | hq
        · exact Nat.ne_of_gt lT.2.2.1
        · rcases List.mem_cons.mp hq with rfl | hq
          · exact Nat.ne_of_gt lT.1
          · exact hnI q hq
  case done =>
    rintro m v1 v2 dat h tk ⟨D, c, ws, rfl, _, hD, hP⟩ H
    have e1 : (ns.take 6).take ws1.toArray.size = ns.take 6 := by
      rw [List.size_toArray, ints_len hI2, List.take_length]
    rw [e1] at hP
    refine hret m v2 D c ws dat h tk hP (H.sub fun q hq => ?_)
    rcases List.mem_cons.mp hq with rfl | hq
    · exact hD
    · exact hq
end
/- L44 -/
section
theorem reset_L44 {prog : Program} {w : World} {A : Around} {env : Env} {Q : Flow → Shared → Prop} {E : Value → Shared → Prop} {s : Shared} (h : Q .next s) : wpAny (model prog w) A (execs [] env) Q E s := by
  k_with_none
  w_top off
  walk1
  exact h
variable {w : World} {loose : List Str} {mean : ExcName → Option Value} {mg mb : Str → Option Value} {h₀ : Heap} {L f : Addr} {cd : Value} {m : Str → Option Value} {dat : List (Addr × Obj)} {s : Shared}
  {Q : Flow → Shared → Prop} {E : Value → Shared → Prop} {v1 v2 v3 v4 v5 v6 : Option Value}
theorem lines_L44_1 : True := by
  k_with "my sub" => (intro q9 hq9; first | exact hq9 | exact .tail _ hq9 | (rcases List.mem_cons.mp hq9 with rfl | hq9 <;> k_mem) | k_mem | exact .tail _ (.tail _ hq9) | exact .tail _ (.tail _ (.tail _ hq9)) | exact .tail _ (.tail _ (.tail _ (.tail _ hq9))) | (simp only [List.mem_append, List.mem_cons] at hq9 ⊢; grind))
  k_with "my pall" => first | assumption | exact PAll.mono (by assumption) (by walk_at "my sub")
  k_with "my pin" => first | assumption | exact PIn.mono (by assumption) (by walk_at "my sub")
  k_with "call builtin:len" => (k_here; (with_reducible show wpAny _ _ (call (Value.builtin "len") [Value.ref _]) _ _ _); k_dflt (refine' my_lenP ?k1 ?k2 ?k3 ?k4 ?_; (case k1 => k_asm); (case k2 => k_mem); (case k3 => assumption); (case k4 => omega)); intro _ _; (try dsimp only))
  k_with "my item" => (k_here; (with_reducible show wpAny _ _ (subscriptTail _ _ (Value.ref _) (Value.int _ _)) _ _ _); k_dflt (refine' my_itemA ?k1 ?k2 ?k3 ?k4 ?k5 ?k6 ?_ ?k8 ?k9; (case k1 => k_asm); (case k2 => k_mem); (case k3 => assumption); (case k4 => omega); (case k5 => omega); (case k6 => omega); (case k8 => with_unfolding_all rfl); (case k9 => (intro _; with_unfolding_all rfl))); intro _ _)
  k_with "compareOp Lt" => (k_here; (with_reducible show wpAny _ _ (compareOp CmpOp.Lt _ _) _ _ _); k_dflt (refine' my_lt ?k1 ?k2 ?k3 ?k4 ?_; (case k1 => k_asm); (case k2 => walk_at "my pin"); (case k3 => walk_at "my pin"); (case k4 => ktr_units)))
  k_with "compareOp NotEq" => (k_here; (with_reducible show wpAny _ _ (compareOp CmpOp.NotEq _ _) _ _ _); k_dflt (refine' my_ne ?k1 ?k2 ?k3 ?k4 ?_; (case k1 => k_asm); (case k2 => walk_at "my pin"); (case k3 => walk_at "my pin"); (case k4 => ktr_units)))
  k_with "binaryOp Add ref ref" => (k_here; (with_reducible show wpAny _ _ (binaryOp _ (Value.ref _) (Value.ref _)) _ _ _); k_dflt (refine' my_addP ?k1 ?k2 ?k3 ?k4 ?k7 ?k8 ?k5 ?k6 ?_; (case k1 => k_asm); (case k2 => k_asm); (case k3 => k_mem); (case k4 => k_mem); (case k7 => assumption); (case k8 => walk_at "my pall"); (case k5 => omega); (case k6 => omega)); intro _ _ _ _ _ _ _; (try k_sweep); (try dsimp only))
  k_with "subscriptTail Name Slice ref ref" => (k_here; (with_reducible show wpAny _ _ (subscriptTail _ (PySem.Expr.Slice none none (some _) _) (Value.ref _) (Value.ref _)) _ _ _); k_dflt (refine' my_rev ?k1 ?k2 ?k3 ?k4 ?k5 ?_ ?k8 ?k9; (case k1 => k_asm); (case k2 => k_asm); (case k3 => k_mem); (case k4 => exact IsPart.int _ _); (case k5 => omega); (case k8 => with_unfolding_all rfl); (case k9 => (intro _; with_unfolding_all rfl))); intro _ _ _ _ _; (try k_sweep); (try dsimp only))
  k_with "call ref" => (k_here; (with_reducible show wpAny _ _ (call (Value.ref 53) _) _ _ _); k_dflt (refine' turn_ok ?k1 ?k2 ?k3 ?k4 ?k5 ?k6 ?k7 ?k8 ?k9 ?k10 ?k11 ?k12 ?k13 ?k14 ?_; (case k1 => k_asm); (case k2 => k_asm); (case k3 => k_asm); (case k4 => k_asm); (case k5 => k_asm); (case k6 => first | exact rfl | assumption); (case k7 => ktr_room); (case k8 => ktr_units); (case k9 => walk_at "my pin"); (case k10 => walk_at "my pin"); (case k11 => walk_at "my pin"); (case k12 => walk_at "my bd"); (case k13 => walk_at "my bd"); (case k14 => walk_at "my bd")); intro _ _ _ _ _; (try dsimp only))
  k_with "my bd" => first | assumption | (refine bd_at ?_ ?_ ?_ <;> first | assumption | omega)
  k_with "call ref" => (k_here; (with_reducible show wpAny _ _ (call (Value.ref 60) _) _ _ _); k_dflt (refine' half_ok ?k1 ?k2 ?k3 ?k4 ?k5 ?k6 ?k7 ?k8 ?k9 ?k13 ?k10 ?k11 ?k12 ?_; (case k1 => k_asm); (case k2 => k_asm); (case k3 => k_asm); (case k4 => k_asm); (case k5 => k_asm); (case k6 => first | exact rfl | assumption); (case k7 => ktr_room); (case k8 => ktr_units); (case k9 => k_mem); (case k10 => first | assumption | exact PAll.reverse (by assumption)); (case k13 => walk_at "my sub"); (case k11 => walk_at "my bds"); (case k12 => walk_at "my len")); intro _ _ _ _ _ _ _ _ _; (try dsimp only))
  k_with "my bds" => assumption
  k_with "my len" => first | omega | (simp only [List.length_append, List.length_cons, List.length_nil, List.length_reverse, List.length_map] at *; omega)
  k_with "my law" => (dsimp only [lawBody, lawScope, fdBody, fdScope, nth, PySem.Challenge.pw_zz0003_01])
  k_with "my LS" => (refine' LS.of ?F9 ?N9 ?d1 ?d2 ?d3 ?d4 ?d5 ?d6 ?m6 ?m5 ?m4 ?m3 ?m2 ?m1 ?hs ?off; (case F9 => assumption); (case N9 => assumption); (case m6 => k_mem); (case m5 => k_mem); (case m4 => k_mem); (case m3 => k_mem); (case m2 => k_mem); (case m1 => k_mem); (case d1 => assumption); (case d2 => assumption); (case d3 => assumption); (case d4 => assumption); (case d5 => assumption); (case d6 => assumption); (case hs => walk_at "my sub"); (case off => walk_at "my off"))
  k_with "my off" => first | assumption | (refine off_add ?_ (by omega); walk_at "my off")
  k_with "subscriptTail Name Slice ref ref" => (k_here; (with_reducible show wpAny _ _ (subscriptTail _ (PySem.Expr.Slice (some _) none none _) (Value.ref _) (Value.ref _)) _ _ _); k_dflt (refine' my_from (j := 2) ?k1 ?k2 ?k3 ?k4 ?k5 ?k6 ?_ ?k8 ?k9; (case k1 => k_asm); (case k2 => k_asm); (case k3 => k_mem); (case k4 => exact IsPart.int _ _); (case k5 => exact IsPart.none); (case k6 => walk_at "my len"); (case k8 => with_unfolding_all rfl); (case k9 => (intro _; with_unfolding_all rfl))); intro _ _ _ _ _; (try k_sweep); (try dsimp only))
  trivial
theorem my_sorted {prog : Program} {A : Around} {E : Value → Shared → Prop} {D c : Nat} {news nw : List (Addr × Obj)} {us : List Value} {ps : List Pt} {Q : Value → Shared → Prop} (F : Fr h₀ L s.heap m) (N : News h₀ L s.heap news) (hm : (D, listOf us.toArray c) ∈ news) (R : PAll nw us ps) (hs : ∀ q ∈ nw, q ∈ news) (hnd : ps.Nodup) (h6 : ps.length ≤ 6)
    (h : ∀ D' ws c' h', Fr h₀ L h' m → News h₀ L h' ((D', listOf ws.toArray c') :: news) → (∀ p ∈ news, p.1 < D') → PAll nw ws (ordr ps) → Q (.ref D') { s with heap := h' }) :
    wpAny (model prog w) A (call (.builtin "sorted") [.ref D]) Q E s := by
  rcases Nat.lt_or_ge ps.length 2 with h2 | h2
  · refine my_sorted1 F N hm (by rw [R.length]; exact h2) fun D' c' h' F' N' l1 => h D' us c' h' F' N' l1 ?_
    rw [ordr_short h2]; exact R
  · exact my_sorted2 F N hm R hs hnd h2 h6 h
local macro_rules | `(tactic| walk_at "call builtin:sorted") => `(tactic| (k_here; (with_reducible show wpAny _ _ (call (Value.builtin "sorted") [Value.ref _]) _ _ _); k_dflt (refine' my_sorted ?k1 ?k2 ?k3 ?k4 ?k5 ?k6 ?k8 ?_; (case k1 => k_asm); (case k2 => k_asm); (case k3 => k_mem); (case k4 => assumption); (case k5 => walk_at "my sub"); (case k6 => assumption); (case k8 => omega)); intro D' ws' c' h' F' N' l1 R'; (have l2 := l1); (try k_lt l2); (try dsimp only)))
theorem lines_L44_2 : True := by
  k_with "compareOp Eq ref ref" => (k_here; (with_reducible show wpAny _ _ (compareOp CmpOp.Eq (Value.ref _) (Value.ref _)) _ _ _); k_dflt (refine' my_eqL ?k1 ?k2 ?k3 ?k4 ?k5 ?k6 ?k7 ?k8 ?_; (case k1 => k_asm); (case k2 => k_mem); (case k3 => assumption); (case k4 => walk_at "my sub"); (case k5 => k_mem); (case k6 => assumption); (case k7 => walk_at "my sub"); (case k8 => ktr_units)))
  k_with "call builtin:min" => (k_here; (with_reducible show wpAny _ _ (call (Value.builtin "min") [Value.ref _]) _ _ _); k_dflt (refine' my_min ?k1 ?k2 ?k3 ?k4 ?k5 ?k6 ?k7 ?_; (case k1 => rfl); (case k2 => ktr_units); (case k3 => k_asm); (case k4 => k_asm); (case k5 => k_mem); (case k6 => assumption); (case k7 => walk_at "my sub")); intro _ _ _ _ _ _; (try dsimp only))
  k_with "call builtin:max" => (k_here; (with_reducible show wpAny _ _ (call (Value.builtin "max") [Value.ref _]) _ _ _); k_dflt (refine' my_max ?k1 ?k2 ?k3 ?k4 ?k5 ?k6 ?k7 ?_; (case k1 => rfl); (case k2 => ktr_units); (case k3 => k_asm); (case k4 => k_asm); (case k5 => k_mem); (case k6 => assumption); (case k7 => walk_at "my sub")); intro _ _ _ _ _ _; (try dsimp only))
  trivial
theorem seg4a {lp np lr nr : Nat} {vs ws : List Value} {ps rs : List Pt}
    (B : Below callerA h₀ [] h₀) (X : (hd.heap_39 w.params).In h₀) (T : Top hd.view_39 loose mean mg mb h₀)
    (H : LS h₀ L m (some (.ref lp)) v2 (some (.ref lr)) v4 v5 v6 dat s.heap)
    (hl : (lp, listOf vs.toArray np) ∈ dat) (R : PAll dat vs ps) (hz : ps.length < 3) (hnd : ps.Nodup)
    (hl2 : (lr, listOf ws.toArray nr) ∈ dat) (R2 : PAll dat ws rs) (hz2 : rs.length ≤ 6) (hnd2 : rs.Nodup)
    (heq : ordr rs = ordr ps)
    (hret : ∀ h' tk', LS h₀ L m (some (.ref lp)) v2 (some (.ref lr)) v4 v5 v6 dat h' → Q (.ret (.bool true)) { s with heap := h', toks := tk' }) :
    wpAny (model PySem.Challenge.rw_zz0003_01.row.prog w) (callerA.deeper (lawEnv L f cd)) (exec (nth lawBody 4) (lawEnv L f cd)) Q E s := by
  revert X; k_fill; intro X
  walk_at "my law"
  have hvl := R.length
  have hvl2 := R2.length
  obtain ⟨F, ⟨o1, o2, o3, o4, o5, o6, d1, d2, d3, d4, d5, d6, N⟩, off⟩ := H
  k_steps
  rw [decide_eq_true heq]
  exact hret _ _ (by walk_at "my LS")
theorem seg4b {lp np lr nr : Nat} {vs ws : List Value} {ps rs : List Pt} {p0 : Pt} {fb : Bool}
    (B : Below callerA h₀ [] h₀) (X : (hd.heap_39 w.params).In h₀) (T : Top hd.view_39 loose mean mg mb h₀)
    (H : LS h₀ L m (some (.ref lp)) v2 (some (.ref lr)) v4 v5 v6 dat s.heap)
    (hl : (lp, listOf vs.toArray np) ∈ dat) (R : PAll dat vs (p0 :: ps)) (hz0 : 3 ≤ ps.length + 1) (hz : ps.length ≤ 5) (hnd : (p0 :: ps).Nodup)
    (hl2 : (lr, listOf ws.toArray nr) ∈ dat) (R2 : PAll dat ws rs) (hz2 : rs.length ≤ 6) (hnd2 : rs.Nodup)
    (hmf : m (Str.ofString "flat") = some (.bool fb))
    (hnd3 : fb = true → [bst false p0 ps, bst true p0 ps].Nodup) (heq : fb = true → ordr rs = ordr [bst false p0 ps, bst true p0 ps])
    (hret : fb = true → ∀ m h' tk', LS h₀ L m (some (.ref lp)) v2 (some (.ref lr)) v4 v5 v6 dat h' → Q (.ret (.bool true)) { s with heap := h', toks := tk' })
    (hnxt : fb = false → ∀ m h' tk', LS h₀ L m (some (.ref lp)) v2 (some (.ref lr)) v4 v5 v6 dat h' → Q .next { s with heap := h', toks := tk' }) :
    wpAny (model PySem.Challenge.rw_zz0003_01.row.prog w) (callerA.deeper (lawEnv L f cd)) (exec (nth lawBody 4) (lawEnv L f cd)) Q E s := by
  revert X; k_fill; intro X
  walk_at "my law"
  have hvl := R.length
  have hvl2 := R2.length
  have hpl : (p0 :: ps).length = ps.length + 1 := rfl
  obtain ⟨F, ⟨o1, o2, o3, o4, o5, o6, d1, d2, d3, d4, d5, d6, N⟩, off⟩ := H
  obtain ⟨m', F'⟩ := fr_known1 (k := Str.ofString "flat") F hmf
  clear F hmf
  cases fb with
  | false =>
    k_steps
    exact hnxt rfl _ _ _ (by walk_at "my LS")
  | true =>
    k_steps
    rename PIn _ _ (bst false p0 ps) => q1
    rename PIn _ _ (bst true p0 ps) => q2
    have RM := PAll.cons q1 (PAll.one q2)
    have hn := hnd3 rfl
    have hl9 : [bst false p0 ps, bst true p0 ps].length = 2 := rfl
    k_steps
    rw [decide_eq_true (heq rfl)]
    exact hret rfl _ _ _ (by walk_at "my LS")
end
/- L5 -/
section
theorem reset_L5 {prog : Program} {w : World} {A : Around} {env : Env} {Q : Flow → Shared → Prop} {E : Value → Shared → Prop} {s : Shared} (h : Q .next s) : wpAny (model prog w) A (execs [] env) Q E s := by
  k_with_none
  w_top off
  walk1
  exact h
variable {w : World} {loose : List Str} {mean : ExcName → Option Value} {mg mb : Str → Option Value} {h₀ : Heap} {L f : Addr} {cd : Value} {m : Str → Option Value} {dat : List (Addr × Obj)} {s : Shared}
  {Q : Flow → Shared → Prop} {E : Value → Shared → Prop} {v1 v2 v3 v4 v5 v6 : Option Value}
local macro_rules | `(tactic| walk_at "exec For") => `(tactic| (k_here; refine Stop.of ?_))
theorem lines_L5_1 : True := by
  k_with "my sub" => (intro q9 hq9; first | exact hq9 | exact .tail _ hq9 | (rcases List.mem_cons.mp hq9 with rfl | hq9 <;> k_mem) | k_mem | exact .tail _ (.tail _ hq9) | exact .tail _ (.tail _ (.tail _ hq9)) | exact .tail _ (.tail _ (.tail _ (.tail _ hq9))) | (simp only [List.mem_append, List.mem_cons] at hq9 ⊢; grind))
  k_with "my pall" => first | assumption | exact PAll.mono (by assumption) (by walk_at "my sub")
  k_with "my pin" => first | assumption | exact PIn.mono (by assumption) (by walk_at "my sub")
  k_with "call builtin:len" => (k_here; (with_reducible show wpAny _ _ (call (Value.builtin "len") [Value.ref _]) _ _ _); k_dflt (refine' my_lenP ?k1 ?k2 ?k3 ?k4 ?_; (case k1 => k_asm); (case k2 => k_mem); (case k3 => assumption); (case k4 => omega)); intro _ _; (try dsimp only))
  k_with "my item" => (k_here; (with_reducible show wpAny _ _ (subscriptTail _ _ (Value.ref _) (Value.int _ _)) _ _ _); k_dflt (refine' my_itemA ?k1 ?k2 ?k3 ?k4 ?k5 ?k6 ?_ ?k8 ?k9; (case k1 => k_asm); (case k2 => k_mem); (case k3 => assumption); (case k4 => omega); (case k5 => omega); (case k6 => omega); (case k8 => with_unfolding_all rfl); (case k9 => (intro _; with_unfolding_all rfl))); intro _ _)
  k_with "compareOp Lt" => (k_here; (with_reducible show wpAny _ _ (compareOp CmpOp.Lt _ _) _ _ _); k_dflt (refine' my_lt ?k1 ?k2 ?k3 ?k4 ?_; (case k1 => k_asm); (case k2 => walk_at "my pin"); (case k3 => walk_at "my pin"); (case k4 => ktr_units)))
  k_with "compareOp NotEq" => (k_here; (with_reducible show wpAny _ _ (compareOp CmpOp.NotEq _ _) _ _ _); k_dflt (refine' my_ne ?k1 ?k2 ?k3 ?k4 ?_; (case k1 => k_asm); (case k2 => walk_at "my pin"); (case k3 => walk_at "my pin"); (case k4 => ktr_units)))
  k_with "binaryOp Add ref ref" => (k_here; (with_reducible show wpAny _ _ (binaryOp _ (Value.ref _) (Value.ref _)) _ _ _); k_dflt (refine' my_addP ?k1 ?k2 ?k3 ?k4 ?k7 ?k8 ?k5 ?k6 ?_; (case k1 => k_asm); (case k2 => k_asm); (case k3 => k_mem); (case k4 => k_mem); (case k7 => assumption); (case k8 => walk_at "my pall"); (case k5 => omega); (case k6 => omega)); intro _ _ _ _ _ _ _; (try k_sweep); (try dsimp only))
  k_with "subscriptTail Name Slice ref ref" => (k_here; (with_reducible show wpAny _ _ (subscriptTail _ (PySem.Expr.Slice none none (some _) _) (Value.ref _) (Value.ref _)) _ _ _); k_dflt (refine' my_rev ?k1 ?k2 ?k3 ?k4 ?k5 ?_ ?k8 ?k9; (case k1 => k_asm); (case k2 => k_asm); (case k3 => k_mem); (case k4 => exact IsPart.int _ _); (case k5 => omega); (case k8 => with_unfolding_all rfl); (case k9 => (intro _; with_unfolding_all rfl))); intro _ _ _ _ _; (try k_sweep); (try dsimp only))
  k_with "call ref" => (k_here; (with_reducible show wpAny _ _ (call (Value.ref 53) _) _ _ _); k_dflt (refine' turn_ok ?k1 ?k2 ?k3 ?k4 ?k5 ?k6 ?k7 ?k8 ?k9 ?k10 ?k11 ?k12 ?k13 ?k14 ?_; (case k1 => k_asm); (case k2 => k_asm); (case k3 => k_asm); (case k4 => k_asm); (case k5 => k_asm); (case k6 => first | exact rfl | assumption); (case k7 => ktr_room); (case k8 => ktr_units); (case k9 => walk_at "my pin"); (case k10 => walk_at "my pin"); (case k11 => walk_at "my pin"); (case k12 => walk_at "my bd"); (case k13 => walk_at "my bd"); (case k14 => walk_at "my bd")); intro _ _ _ _ _; (try dsimp only))
  k_with "my bd" => first | assumption | (refine bd_at ?_ ?_ ?_ <;> first | assumption | omega)
  k_with "call ref" => (k_here; (with_reducible show wpAny _ _ (call (Value.ref 60) _) _ _ _); k_dflt (refine' half_ok ?k1 ?k2 ?k3 ?k4 ?k5 ?k6 ?k7 ?k8 ?k9 ?k13 ?k10 ?k11 ?k12 ?_; (case k1 => k_asm); (case k2 => k_asm); (case k3 => k_asm); (case k4 => k_asm); (case k5 => k_asm); (case k6 => first | exact rfl | assumption); (case k7 => ktr_room); (case k8 => ktr_units); (case k9 => k_mem); (case k10 => first | assumption | exact PAll.reverse (by assumption)); (case k13 => walk_at "my sub"); (case k11 => walk_at "my bds"); (case k12 => walk_at "my len")); intro _ _ _ _ _ _ _ _ _; (try dsimp only))
  k_with "my bds" => assumption
  k_with "my len" => first | omega | (simp only [List.length_append, List.length_cons, List.length_nil, List.length_reverse, List.length_map] at *; omega)
  k_with "my law" => (dsimp only [lawBody, lawScope, fdBody, fdScope, nth, PySem.Challenge.pw_zz0003_01])
  k_with "my LS" => (refine' LS.of ?F9 ?N9 ?d1 ?d2 ?d3 ?d4 ?d5 ?d6 ?m6 ?m5 ?m4 ?m3 ?m2 ?m1 ?hs ?off; (case F9 => assumption); (case N9 => assumption); (case m6 => k_mem); (case m5 => k_mem); (case m4 => k_mem); (case m3 => k_mem); (case m2 => k_mem); (case m1 => k_mem); (case d1 => assumption); (case d2 => assumption); (case d3 => assumption); (case d4 => assumption); (case d5 => assumption); (case d6 => assumption); (case hs => walk_at "my sub"); (case off => walk_at "my off"))
  k_with "my off" => first | assumption | (refine off_add ?_ (by omega); walk_at "my off")
  k_with "subscriptTail Name Slice ref ref" => (k_here; (with_reducible show wpAny _ _ (subscriptTail _ (PySem.Expr.Slice (some _) none none _) (Value.ref _) (Value.ref _)) _ _ _); k_dflt (refine' my_from (j := 2) ?k1 ?k2 ?k3 ?k4 ?k5 ?k6 ?_ ?k8 ?k9; (case k1 => k_asm); (case k2 => k_asm); (case k3 => k_mem); (case k4 => exact IsPart.int _ _); (case k5 => exact IsPart.none); (case k6 => walk_at "my len"); (case k8 => with_unfolding_all rfl); (case k9 => (intro _; with_unfolding_all rfl))); intro _ _ _ _ _; (try k_sweep); (try dsimp only))
  trivial
theorem seg5 {lp np lr nr : Nat} {vs ws : List Value} {ps rs : List Pt}
    (B : Below callerA h₀ [] h₀) (X : (hd.heap_39 w.params).In h₀) (T : Top hd.view_39 loose mean mg mb h₀)
    (H : LS h₀ L m (some (.ref lp)) v2 (some (.ref lr)) v4 v5 v6 dat s.heap)
    (hl : (lp, listOf vs.toArray np) ∈ dat) (R : PAll dat vs ps) (bd : ∀ p ∈ ps, Bd p) (hz : ps.length ≤ 6)
    (hl2 : (lr, listOf ws.toArray nr) ∈ dat) (R2 : PAll dat ws rs) (bd2 : ∀ p ∈ rs, Bd p) (hz2 : rs.length ≤ 6) (h3 : 3 ≤ rs.length)
    (hc1 : ∀ k : Nat, k < rs.length → 0 < turn (atI rs ((k : Int) - 2)) (atI rs ((k : Int) - 1)) (atI rs (k : Int)))
    (hc2 : ∀ k : Nat, k < rs.length → ∀ p ∈ ps, 0 ≤ turn (atI rs ((k : Int) - 1)) (atI rs (k : Int)) p)
    (hret : ∀ v4 h' tk', LS h₀ L m (some (.ref lp)) v2 (some (.ref lr)) v4 v5 v6 dat h' → Q .next { s with heap := h', toks := tk' }) :
    wpAny (model PySem.Challenge.rw_zz0003_01.row.prog w) (callerA.deeper (lawEnv L f cd)) (exec (nth lawBody 5) (lawEnv L f cd)) Q E s := by
  revert X; k_fill; intro X
  walk_at "my law"
  have hvl := R.length
  have hvl2 := R2.length
  obtain ⟨F, ⟨o1, o2, o3, o4, o5, o6, d1, d2, d3, d4, d5, d6, N⟩, off⟩ := H
  k_steps
  refine Stop.go ?_
  refine wpAny_For ?_
  k_steps
  refine Stop.go ?_
  rename IsRange _ _ _ _ _ _ _ _ => hR
  rename Fr _ _ _ _ => F'
  rename News _ _ _ _ => N'
  refine for4_range (dat := dat) rfl (by walk_at "my LS") hR (by omega) ?_ ?_
  · clear hR F' N' d1 d2 d3 d4 d5 d6 off
    (try clear N'); rename News _ _ _ _ => N9; clear N9
    clear o1 o2 o3 o4 o5 o6
    rintro i t h tk I oI E' hi hLI hnI ⟨F, ⟨o1, o2, o3, o4, o5, o6, d1, d2, d3, d4, d5, d6, N⟩, off⟩
    have c1 := hc1 i hi
    have c2 := hc2 i hi
    k_steps
    refine Stop.go ?_
    rename Fr _ _ _ _ => F1
    rename News _ _ _ _ => N1
    clear N F
    refine comp_eval (h₀ := h₀) (L := L) (by intro _; with_unfolding_all rfl) (by with_unfolding_all rfl) (by decide) (by rfl) (by decide) ?_
    k_steps
    refine Stop.go ?_
    refine top_list (vs := vs) (k := np) rfl F1 N1 (by k_mem) ?_
    intro I2 C D h2 h3 tk3 V st c hI hCI hDI hCa hDa hDs
    refine level_last (by rfl) (by rfl) (by rfl) (by rfl) V hCI hDI hCa hDa (Jfix _ fun i ys => ys = []) ?hS st c hI ⟨rfl, rfl⟩ ?turn ?done
    case hS =>
      rintro i m₂ ys led ⟨rfl, rfl⟩
      exact ⟨.inr ⟨_, by k_mem, rfl, _, rfl⟩, Nat.zero_le _⟩
    case turn =>
      rintro i2 v m₂ ys led h4 tk4 oI2 E2 hi2 hv ⟨rfl, rfl⟩ hoff ⟨F4, oC, hC, N4, off4, ne4⟩
      obtain ⟨hi2', hP⟩ := R.val hi2 hv
      have hx : (fun y => if y = Str.ofString "point" then some v else m₂ y) (Str.ofString "point") = some v := if_pos rfl
      have b1 : Bd ps[i2] := bd _ (List.getElem_mem hi2')
      have c3 := c2 _ (List.getElem_mem hi2')
      clear F1 N1 V st c hI
      refine tests_one ?_
      k_steps
      exact CEnd.same (by assumption) (by assumption) hC off4 hoff ne4 ⟨rfl, rfl⟩
    case done =>
      rintro m₂ ys led h4 tk4 ⟨rfl, rfl⟩ c4 hoff
      refine ⟨_, _, _, _, _, rfl, c4, ?_⟩
      intro h5 F5 N5 hD5
      clear F1 N1 V st c c4 hI
      k_steps
      exact ⟨_, _, _, rfl, by walk_at "my LS"⟩
  · intro v4 h tk H
    exact hret _ _ _ H
end
/- L6b -/
section
theorem reset_L6b {prog : Program} {w : World} {A : Around} {env : Env} {Q : Flow → Shared → Prop} {E : Value → Shared → Prop} {s : Shared} (h : Q .next s) : wpAny (model prog w) A (execs [] env) Q E s := by
  k_with_none
  w_top off
  walk1
  exact h
variable {w : World} {loose : List Str} {mean : ExcName → Option Value} {mg mb : Str → Option Value} {h₀ : Heap} {L f : Addr} {cd : Value} {m : Str → Option Value} {dat : List (Addr × Obj)} {s : Shared}
  {Q : Flow → Shared → Prop} {E : Value → Shared → Prop} {v1 v2 v3 v4 v5 v6 : Option Value}
theorem lines_L6b_1 : True := by
  k_with "my sub" => (intro q9 hq9; first | exact hq9 | exact .tail _ hq9 | (rcases List.mem_cons.mp hq9 with rfl | hq9 <;> k_mem) | k_mem | exact .tail _ (.tail _ hq9) | exact .tail _ (.tail _ (.tail _ hq9)) | exact .tail _ (.tail _ (.tail _ (.tail _ hq9))) | (simp only [List.mem_append, List.mem_cons] at hq9 ⊢; grind))
  k_with "my pall" => first | assumption | exact PAll.mono (by assumption) (by walk_at "my sub")
  k_with "my pin" => first | assumption | exact PIn.mono (by assumption) (by walk_at "my sub")
  k_with "call builtin:len" => (k_here; (with_reducible show wpAny _ _ (call (Value.builtin "len") [Value.ref _]) _ _ _); k_dflt (refine' my_lenP ?k1 ?k2 ?k3 ?k4 ?_; (case k1 => k_asm); (case k2 => k_mem); (case k3 => assumption); (case k4 => omega)); intro _ _; (try dsimp only))
  k_with "my item" => (k_here; (with_reducible show wpAny _ _ (subscriptTail _ _ (Value.ref _) (Value.int _ _)) _ _ _); k_dflt (refine' my_itemA ?k1 ?k2 ?k3 ?k4 ?k5 ?k6 ?_ ?k8 ?k9; (case k1 => k_asm); (case k2 => k_mem); (case k3 => assumption); (case k4 => omega); (case k5 => omega); (case k6 => omega); (case k8 => with_unfolding_all rfl); (case k9 => (intro _; with_unfolding_all rfl))); intro _ _)
  k_with "compareOp Lt" => (k_here; (with_reducible show wpAny _ _ (compareOp CmpOp.Lt _ _) _ _ _); k_dflt (refine' my_lt ?k1 ?k2 ?k3 ?k4 ?_; (case k1 => k_asm); (case k2 => walk_at "my pin"); (case k3 => walk_at "my pin"); (case k4 => ktr_units)))
  k_with "compareOp NotEq" => (k_here; (with_reducible show wpAny _ _ (compareOp CmpOp.NotEq _ _) _ _ _); k_dflt (refine' my_ne ?k1 ?k2 ?k3 ?k4 ?_; (case k1 => k_asm); (case k2 => walk_at "my pin"); (case k3 => walk_at "my pin"); (case k4 => ktr_units)))
  k_with "binaryOp Add ref ref" => (k_here; (with_reducible show wpAny _ _ (binaryOp _ (Value.ref _) (Value.ref _)) _ _ _); k_dflt (refine' my_addP ?k1 ?k2 ?k3 ?k4 ?k7 ?k8 ?k5 ?k6 ?_; (case k1 => k_asm); (case k2 => k_asm); (case k3 => k_mem); (case k4 => k_mem); (case k7 => assumption); (case k8 => walk_at "my pall"); (case k5 => omega); (case k6 => omega)); intro _ _ _ _ _ _ _; (try k_sweep); (try dsimp only))
  k_with "subscriptTail Name Slice ref ref" => (k_here; (with_reducible show wpAny _ _ (subscriptTail _ (PySem.Expr.Slice none none (some _) _) (Value.ref _) (Value.ref _)) _ _ _); k_dflt (refine' my_rev ?k1 ?k2 ?k3 ?k4 ?k5 ?_ ?k8 ?k9; (case k1 => k_asm); (case k2 => k_asm); (case k3 => k_mem); (case k4 => exact IsPart.int _ _); (case k5 => omega); (case k8 => with_unfolding_all rfl); (case k9 => (intro _; with_unfolding_all rfl))); intro _ _ _ _ _; (try k_sweep); (try dsimp only))
  k_with "call ref" => (k_here; (with_reducible show wpAny _ _ (call (Value.ref 53) _) _ _ _); k_dflt (refine' turn_ok ?k1 ?k2 ?k3 ?k4 ?k5 ?k6 ?k7 ?k8 ?k9 ?k10 ?k11 ?k12 ?k13 ?k14 ?_; (case k1 => k_asm); (case k2 => k_asm); (case k3 => k_asm); (case k4 => k_asm); (case k5 => k_asm); (case k6 => first | exact rfl | assumption); (case k7 => ktr_room); (case k8 => ktr_units); (case k9 => walk_at "my pin"); (case k10 => walk_at "my pin"); (case k11 => walk_at "my pin"); (case k12 => walk_at "my bd"); (case k13 => walk_at "my bd"); (case k14 => walk_at "my bd")); intro _ _ _ _ _; (try dsimp only))
  k_with "my bd" => first | assumption | (refine bd_at ?_ ?_ ?_ <;> first | assumption | omega)
  k_with "call ref" => (k_here; (with_reducible show wpAny _ _ (call (Value.ref 60) _) _ _ _); k_dflt (refine' half_ok ?k1 ?k2 ?k3 ?k4 ?k5 ?k6 ?k7 ?k8 ?k9 ?k13 ?k10 ?k11 ?k12 ?_; (case k1 => k_asm); (case k2 => k_asm); (case k3 => k_asm); (case k4 => k_asm); (case k5 => k_asm); (case k6 => first | exact rfl | assumption); (case k7 => ktr_room); (case k8 => ktr_units); (case k9 => k_mem); (case k10 => first | assumption | exact PAll.reverse (by assumption)); (case k13 => walk_at "my sub"); (case k11 => walk_at "my bds"); (case k12 => walk_at "my len")); intro _ _ _ _ _ _ _ _ _; (try dsimp only))
  k_with "my bds" => assumption
  k_with "my len" => first | omega | (simp only [List.length_append, List.length_cons, List.length_nil, List.length_reverse, List.length_map] at *; omega)
  k_with "my law" => (dsimp only [lawBody, lawScope, fdBody, fdScope, nth, PySem.Challenge.pw_zz0003_01])
  k_with "my LS" => (refine' LS.of ?F9 ?N9 ?d1 ?d2 ?d3 ?d4 ?d5 ?d6 ?m6 ?m5 ?m4 ?m3 ?m2 ?m1 ?hs ?off; (case F9 => assumption); (case N9 => assumption); (case m6 => k_mem); (case m5 => k_mem); (case m4 => k_mem); (case m3 => k_mem); (case m2 => k_mem); (case m1 => k_mem); (case d1 => assumption); (case d2 => assumption); (case d3 => assumption); (case d4 => assumption); (case d5 => assumption); (case d6 => assumption); (case hs => walk_at "my sub"); (case off => walk_at "my off"))
  k_with "my off" => first | assumption | (refine off_add ?_ (by omega); walk_at "my off")
  k_with "subscriptTail Name Slice ref ref" => (k_here; (with_reducible show wpAny _ _ (subscriptTail _ (PySem.Expr.Slice (some _) none none _) (Value.ref _) (Value.ref _)) _ _ _); k_dflt (refine' my_from (j := 2) ?k1 ?k2 ?k3 ?k4 ?k5 ?k6 ?_ ?k8 ?k9; (case k1 => k_asm); (case k2 => k_asm); (case k3 => k_mem); (case k4 => exact IsPart.int _ _); (case k5 => exact IsPart.none); (case k6 => walk_at "my len"); (case k8 => with_unfolding_all rfl); (case k9 => (intro _; with_unfolding_all rfl))); intro _ _ _ _ _; (try k_sweep); (try dsimp only))
  k_with "my law" => (dsimp only [ptBody, forB, lawBody, lawScope, fdBody, fdScope, nth, PySem.Challenge.pw_zz0003_01])
  k_with "call ref" => (k_here; (with_reducible show wpAny _ _ (call (Value.ref 74) _) _ _ _); k_dflt (refine' within_ok ?k1 ?k2 ?k3 ?k4 ?k5 ?k6 ?k7 ?k8 ?k9 ?k10 ?k11 ?k12 ?k13 ?k14 ?k15 ?k16 ?_; (case k1 => k_asm); (case k2 => k_asm); (case k3 => k_asm); (case k4 => k_asm); (case k5 => k_asm); (case k6 => first | exact rfl | assumption); (case k7 => ktr_room); (case k8 => ktr_units); (case k9 => walk_at "my pin"); (case k10 => walk_at "my pin"); (case k11 => walk_at "my pin"); (case k12 => walk_at "my pin"); (case k13 => walk_at "my bd"); (case k14 => walk_at "my bd"); (case k15 => walk_at "my bd"); (case k16 => walk_at "my bd")); intro _ _ _ _; (try dsimp only))
  trivial
def wi (qs : List Pt) (p : Pt) (a b c : Nat) : Bool := within (atI qs (a : Int)) (atI qs (b : Int)) (atI qs (c : Int)) p
def in1 (qs : List Pt) (p : Pt) (a b k : Nat) : List Int := ((List.range k).filter fun c => wi qs p a b c).map fun _ => 1
def in2 (qs : List Pt) (p : Pt) (a k : Nat) : List Int := (List.range k).flatMap fun b => in1 qs p a b b
def in3 (qs : List Pt) (p : Pt) (k : Nat) : List Int := (List.range k).flatMap fun a => in2 qs p a a
theorem in1_pos {qs : List Pt} {p : Pt} {a b k : Nat} (h : wi qs p a b k = true) : in1 qs p a b (k + 1) = in1 qs p a b k ++ [1] := by
  rw [in1, List.range_succ, List.filter_append, List.map_append]; simp [h, in1]
theorem in1_neg {qs : List Pt} {p : Pt} {a b k : Nat} (h : wi qs p a b k = false) : in1 qs p a b (k + 1) = in1 qs p a b k := by
  rw [in1, List.range_succ, List.filter_append, List.map_append]; simp [h, in1]
theorem in2_succ (qs : List Pt) (p : Pt) (a k : Nat) : in2 qs p a (k + 1) = in2 qs p a k ++ in1 qs p a k k := by
  rw [in2, List.range_succ, List.flatMap_append]; simp [in2]
theorem in3_succ (qs : List Pt) (p : Pt) (k : Nat) : in3 qs p (k + 1) = in3 qs p k ++ in2 qs p k k := by
  rw [in3, List.range_succ, List.flatMap_append]; simp [in3]
theorem in1_len (qs : List Pt) (p : Pt) (a b k : Nat) : (in1 qs p a b k).length ≤ k := by
  rw [in1, List.length_map]
  exact Nat.le_trans (List.length_filter_le _ _) (by rw [List.length_range]; exact Nat.le_refl _)
theorem in2_len (qs : List Pt) (p : Pt) (a k : Nat) : (in2 qs p a k).length ≤ k * k := by
  induction k with
  | zero => simp [in2]
  | succ k ih => rw [in2_succ, List.length_append]; have := in1_len qs p a k k; grind
theorem in3_len (qs : List Pt) (p : Pt) (k : Nat) : (in3 qs p k).length ≤ k * (k * k) := by
  induction k with
  | zero => simp [in3]
  | succ k ih => rw [in3_succ, List.length_append]; have := in2_len qs p k k; grind
theorem seg6b {lr nr : Nat} {ws : List Value} {rs : List Pt} {v : Value} {p : Pt}
    (B : Below callerA h₀ [] h₀) (X : (hd.heap_39 w.params).In h₀) (T : Top hd.view_39 loose mean mg mb h₀)
    (H : LS h₀ L m v1 (some v) v3 v4 (some (.ref lr)) v6 dat s.heap) (hP : PIn dat v p) (bp : Bd p)
    (hl2 : (lr, listOf ws.toArray nr) ∈ dat) (R2 : PAll dat ws rs) (bd2 : ∀ p ∈ rs, Bd p) (hz2 : rs.length ≤ 6)
    (hret : ∀ D c ys h' tk', IntsAre ys (in3 rs p rs.length) → LS h₀ L (fun z => if z = Str.ofString "inside" then some (.ref D) else m z) v1 (some v) v3 v4 (some (.ref lr)) v6 ((D, listOf ys.toArray c) :: dat) h' → Q .next { s with heap := h', toks := tk' }) :
    wpAny (model PySem.Challenge.rw_zz0003_01.row.prog w) (callerA.deeper (lawEnv L f cd)) (exec (nth ptBody 1) (lawEnv L f cd)) Q E s := by
  revert X; k_fill; intro X
  walk_at "my law"
  have hvl := R2.length
  obtain ⟨F, ⟨o1, o2, o3, o4, o5, o6, d1, d2, d3, d4, d5, d6, N⟩, off⟩ := H
  k_steps
  refine Stop.go ?_
  refine comp_assign (h₀ := h₀) (L := L) rfl (by with_unfolding_all rfl) (by intro _; with_unfolding_all rfl) (by with_unfolding_all rfl) (by decide) (by rfl) (by decide) (by rfl) (by rfl) ?_
  k_steps
  refine Stop.go ?_
  rename IsRange _ _ _ _ _ _ _ _ => hR
  rename Fr _ _ _ _ => F1
  rename News _ _ _ _ => N1
  refine top_range (b := rs.length) rfl F1 N1 hR (by omega) ?_
  intro I C D h2 h3 tk3 V st c hI hCI hDI hCa hDa hDs
  have hlt6 : @LT.lt Nat _ (L + 1 + 1 + 1 + 1 + 1 + 1) D := Nat.lt_of_lt_of_le (Heap.lt_size (N1 _ (.head _)).1) hDs
  refine level_next (by rfl) (by rfl) (by intro _; with_unfolding_all rfl) (by rfl) (by rfl) V hCI hDI hCa (Jfix _ fun i ys => IntsAre ys (in3 rs p i) ∧ i ≤ rs.length) (fun _ _ _ _ _ => trivial) st c hI ⟨rfl, .nil, Nat.zero_le _⟩ ?turn ?done
  case turn =>
    rintro i v m₂ ys led h4 tk4 oI E' hi ⟨ta, rfl⟩ ⟨rfl, hy, _⟩ hoff ⟨F4, oC, hC, N4, off4, ne4⟩
    have e1 : (0 : Int) + (i : Int) = (i : Int) := by omega
    rw [e1] at hC
    have hxa : (fun y => if y = Str.ofString "a" then some (Value.int (i : Int) ta) else m₂ y) (Str.ofString "a") = some (Value.int (i : Int) ta) := if_pos rfl
    clear F1 N1 V st c hR hI
    refine tests_nil ?_
    rw [if_pos rfl]
    k_steps
    refine Stop.go ?_
    rename IsRange _ _ _ _ _ _ _ _ => hR2
    rename Fr _ _ _ _ => F5
    rename News _ _ _ _ => N5
    refine in_range (C := C) (D := D) (ys := ys) (led := (I, oI) :: _) (by rfl) rfl (CS.of F5 N5 hC (.head _) (.tail _ (.head _)) (fun q hq => .tail _ (.tail _ hq)) off4 ne4) hR2 (by omega) ?_
    clear F5 N5 hR2
    intro I2 h6 V2 st2 c2 hI2 hCI2 hDI2 hCa2 hDa2
    refine level_next (by rfl) (by rfl) (by intro _; with_unfolding_all rfl) (by rfl) (by rfl) V2 hCI2 hDI2 hCa2 (fun j m₂ ys nx => nx = (I, oI) :: _ ∧ IntsAre ys (in3 rs p i ++ in2 rs p i j) ∧ m₂ (Str.ofString "a") = some (.int (i : Int) ta) ∧ j ≤ i) (fun _ _ _ _ _ => trivial) st2 c2 hI2 ⟨rfl, by simpa [in2] using hy, hxa, Nat.zero_le _⟩ ?turn2 ?done2
    case turn2 =>
      clear hy hxa hC st2 c2
      rintro j v m₃ ys led h7 tk7 oI2 E2 hj ⟨tb, rfl⟩ ⟨rfl, hy, ha, _⟩ hoff2 ⟨F7, oC, hC, N7, off7, ne7⟩
      have e1 : (0 : Int) + (j : Int) = (j : Int) := by omega
      rw [e1] at hC
      have hxb : (fun y => if y = Str.ofString "b" then some (Value.int (j : Int) tb) else m₃ y) (Str.ofString "b") = some (Value.int (j : Int) tb) := if_pos rfl
      have hxa : (fun y => if y = Str.ofString "b" then some (Value.int (j : Int) tb) else m₃ y) (Str.ofString "a") = some (Value.int (i : Int) ta) := (if_neg (by decide)).trans ha
      clear V2 hI2
      refine tests_nil ?_
      rw [if_pos rfl]
      k_steps
      refine Stop.go ?_
      rename IsRange _ _ _ _ _ _ _ _ => hR2
      rename Fr _ _ _ _ => F5
      rename News _ _ _ _ => N5
      refine in_range (C := C) (D := D) (ys := ys) (led := (I2, oI2) :: _) (by rfl) rfl (CS.of F5 N5 hC (.head _) (.tail _ (.head _)) (fun q hq => .tail _ (.tail _ hq)) off7 ne7) hR2 (by omega) ?_
      clear F5 N5 hR2
      intro I3 h8 V3 st3 c3 hI3 hCI3 hDI3 hCa3 hDa3
      refine level_last (by rfl) (by rfl) (by rfl) (by rfl) V3 hCI3 hDI3 hCa3 hDa3 (fun k m₂ ys nx => nx = (I2, oI2) :: _ ∧ IntsAre ys (in3 rs p i ++ in2 rs p i j ++ in1 rs p i j k) ∧ m₂ (Str.ofString "a") = some (.int (i : Int) ta) ∧ m₂ (Str.ofString "b") = some (.int (j : Int) tb) ∧ k ≤ j) ?hS3 st3 c3 hI3 ⟨rfl, by simpa [in1] using hy, hxa, hxb, Nat.zero_le _⟩ ?turn3 ?done3
      case hS3 =>
        rintro k m₂ ys led ⟨rfl, hy, _, _, hk⟩
        refine ⟨trivial, ?_⟩
        have e1 := ints_len hy
        rw [List.length_append, List.length_append] at e1
        have e0 := in1_len rs p i j k
        have e2 := in3_len rs p i
        have e3 := in2_len rs p i j
        have e4 : i * (i * i) ≤ 6 * (6 * 6) := Nat.mul_le_mul (by omega) (Nat.mul_le_mul (by omega) (by omega))
        have e5 : j * j ≤ 6 * 6 := Nat.mul_le_mul (by omega) (by omega)
        omega
      case turn3 =>
        clear hy hxa hxb hC st3 c3
        rintro k v m₄ ys led h9 tk9 oI3 E3 hk ⟨tc, rfl⟩ ⟨rfl, hy, ha, hb, _⟩ hoff3 ⟨F9, oC, hC, N9, off9, ne9⟩
        have e1 : (0 : Int) + (k : Int) = (k : Int) := by omega
        rw [e1] at hC
        have hxc : (fun y => if y = Str.ofString "c" then some (Value.int (k : Int) tc) else m₄ y) (Str.ofString "c") = some (Value.int (k : Int) tc) := if_pos rfl
        have hxa : (fun y => if y = Str.ofString "c" then some (Value.int (k : Int) tc) else m₄ y) (Str.ofString "a") = some (Value.int (i : Int) ta) := (if_neg (by decide)).trans ha
        have hxb : (fun y => if y = Str.ofString "c" then some (Value.int (k : Int) tc) else m₄ y) (Str.ofString "b") = some (Value.int (j : Int) tb) := (if_neg (by decide)).trans hb
        clear V3 hI3
        refine tests_one ?_
        k_steps
        · rename (within _ _ _ _ = true) => ht
          refine CEnd.same (by assumption) (by assumption) hC off9 hoff3 ne9 ⟨⟨rfl, ?_, hxa, hxb, hk⟩, trivial, ?_⟩
          · rw [in1_pos ht, ← List.append_assoc]
            exact ints_snoc hy _ _
          · have e1 := ints_len hy
            rw [List.length_append, List.length_append] at e1
            have e0 := in1_len rs p i j k
            have e2 := in3_len rs p i
            have e3 := in2_len rs p i j
            have e4 : i * (i * i) ≤ 6 * (6 * 6) := Nat.mul_le_mul (by omega) (Nat.mul_le_mul (by omega) (by omega))
            have e5 : j * j ≤ 6 * 6 := Nat.mul_le_mul (by omega) (by omega)
            omega
        · rename (within _ _ _ _ = false) => ht
          refine CEnd.same (by assumption) (by assumption) hC off9 hoff3 ne9 ⟨rfl, ?_, hxa, hxb, hk⟩
          rw [in1_neg ht]
          exact hy
      case done3 =>
        rintro m₄ ys led h9 tk9 ⟨rfl, hy, ha, hb, _⟩ c9 hoff9
        exact ⟨h9, tk9, m₄, ys, _, rfl, c9, hoff2, rfl, by rw [in2_succ, ← List.append_assoc]; exact hy, ha, hj⟩
    case done2 =>
      rintro m₃ ys led h7 tk7 ⟨rfl, hy, ha, _⟩ c7 hoff7
      exact ⟨h7, tk7, m₃, ys, _, rfl, c7, hoff, rfl, by rw [in3_succ]; exact hy, hi⟩
  case done =>
    rintro m₂ ys led h4 tk4 ⟨rfl, hy, _⟩ c4 hoff
    refine ⟨_, _, _, _, _, rfl, c4, ?_⟩
    intro h5 tk5 F5 N5 hD5
    clear F1 N1 V st c c4 hR hI
    refine hret D ys.length ys _ _ hy ?_
    walk_at "my LS"
end
/- L6c -/
section
theorem reset_L6c {prog : Program} {w : World} {A : Around} {env : Env} {Q : Flow → Shared → Prop} {E : Value → Shared → Prop} {s : Shared} (h : Q .next s) : wpAny (model prog w) A (execs [] env) Q E s := by
  k_with_none
  w_top off
  walk1
  exact h
variable {w : World} {loose : List Str} {mean : ExcName → Option Value} {mg mb : Str → Option Value} {h₀ : Heap} {L f : Addr} {cd : Value} {m : Str → Option Value} {dat : List (Addr × Obj)} {s : Shared}
  {Q : Flow → Shared → Prop} {E : Value → Shared → Prop} {v1 v2 v3 v4 v5 v6 : Option Value}
theorem lines_L6c_1 : True := by
  k_with "my sub" => (intro q9 hq9; first | exact hq9 | exact .tail _ hq9 | (rcases List.mem_cons.mp hq9 with rfl | hq9 <;> k_mem) | k_mem | exact .tail _ (.tail _ hq9) | exact .tail _ (.tail _ (.tail _ hq9)) | exact .tail _ (.tail _ (.tail _ (.tail _ hq9))) | (simp only [List.mem_append, List.mem_cons] at hq9 ⊢; grind))
  k_with "my pall" => first | assumption | exact PAll.mono (by assumption) (by walk_at "my sub")
  k_with "my pin" => first | assumption | exact PIn.mono (by assumption) (by walk_at "my sub")
  k_with "call builtin:len" => (k_here; (with_reducible show wpAny _ _ (call (Value.builtin "len") [Value.ref _]) _ _ _); k_dflt (refine' my_lenP ?k1 ?k2 ?k3 ?k4 ?_; (case k1 => k_asm); (case k2 => k_mem); (case k3 => assumption); (case k4 => omega)); intro _ _; (try dsimp only))
  k_with "my item" => (k_here; (with_reducible show wpAny _ _ (subscriptTail _ _ (Value.ref _) (Value.int _ _)) _ _ _); k_dflt (refine' my_itemA ?k1 ?k2 ?k3 ?k4 ?k5 ?k6 ?_ ?k8 ?k9; (case k1 => k_asm); (case k2 => k_mem); (case k3 => assumption); (case k4 => omega); (case k5 => omega); (case k6 => omega); (case k8 => with_unfolding_all rfl); (case k9 => (intro _; with_unfolding_all rfl))); intro _ _)
  k_with "compareOp Lt" => (k_here; (with_reducible show wpAny _ _ (compareOp CmpOp.Lt _ _) _ _ _); k_dflt (refine' my_lt ?k1 ?k2 ?k3 ?k4 ?_; (case k1 => k_asm); (case k2 => walk_at "my pin"); (case k3 => walk_at "my pin"); (case k4 => ktr_units)))
  k_with "compareOp NotEq" => (k_here; (with_reducible show wpAny _ _ (compareOp CmpOp.NotEq _ _) _ _ _); k_dflt (refine' my_ne ?k1 ?k2 ?k3 ?k4 ?_; (case k1 => k_asm); (case k2 => walk_at "my pin"); (case k3 => walk_at "my pin"); (case k4 => ktr_units)))
  k_with "binaryOp Add ref ref" => (k_here; (with_reducible show wpAny _ _ (binaryOp _ (Value.ref _) (Value.ref _)) _ _ _); k_dflt (refine' my_addP ?k1 ?k2 ?k3 ?k4 ?k7 ?k8 ?k5 ?k6 ?_; (case k1 => k_asm); (case k2 => k_asm); (case k3 => k_mem); (case k4 => k_mem); (case k7 => assumption); (case k8 => walk_at "my pall"); (case k5 => omega); (case k6 => omega)); intro _ _ _ _ _ _ _; (try k_sweep); (try dsimp only))
  k_with "subscriptTail Name Slice ref ref" => (k_here; (with_reducible show wpAny _ _ (subscriptTail _ (PySem.Expr.Slice none none (some _) _) (Value.ref _) (Value.ref _)) _ _ _); k_dflt (refine' my_rev ?k1 ?k2 ?k3 ?k4 ?k5 ?_ ?k8 ?k9; (case k1 => k_asm); (case k2 => k_asm); (case k3 => k_mem); (case k4 => exact IsPart.int _ _); (case k5 => omega); (case k8 => with_unfolding_all rfl); (case k9 => (intro _; with_unfolding_all rfl))); intro _ _ _ _ _; (try k_sweep); (try dsimp only))
  k_with "call ref" => (k_here; (with_reducible show wpAny _ _ (call (Value.ref 53) _) _ _ _); k_dflt (refine' turn_ok ?k1 ?k2 ?k3 ?k4 ?k5 ?k6 ?k7 ?k8 ?k9 ?k10 ?k11 ?k12 ?k13 ?k14 ?_; (case k1 => k_asm); (case k2 => k_asm); (case k3 => k_asm); (case k4 => k_asm); (case k5 => k_asm); (case k6 => first | exact rfl | assumption); (case k7 => ktr_room); (case k8 => ktr_units); (case k9 => walk_at "my pin"); (case k10 => walk_at "my pin"); (case k11 => walk_at "my pin"); (case k12 => walk_at "my bd"); (case k13 => walk_at "my bd"); (case k14 => walk_at "my bd")); intro _ _ _ _ _; (try dsimp only))
  k_with "my bd" => first | assumption | (refine bd_at ?_ ?_ ?_ <;> first | assumption | omega)
  k_with "call ref" => (k_here; (with_reducible show wpAny _ _ (call (Value.ref 60) _) _ _ _); k_dflt (refine' half_ok ?k1 ?k2 ?k3 ?k4 ?k5 ?k6 ?k7 ?k8 ?k9 ?k13 ?k10 ?k11 ?k12 ?_; (case k1 => k_asm); (case k2 => k_asm); (case k3 => k_asm); (case k4 => k_asm); (case k5 => k_asm); (case k6 => first | exact rfl | assumption); (case k7 => ktr_room); (case k8 => ktr_units); (case k9 => k_mem); (case k10 => first | assumption | exact PAll.reverse (by assumption)); (case k13 => walk_at "my sub"); (case k11 => walk_at "my bds"); (case k12 => walk_at "my len")); intro _ _ _ _ _ _ _ _ _; (try dsimp only))
  k_with "my bds" => assumption
  k_with "my len" => first | omega | (simp only [List.length_append, List.length_cons, List.length_nil, List.length_reverse, List.length_map] at *; omega)
  k_with "my law" => (dsimp only [lawBody, lawScope, fdBody, fdScope, nth, PySem.Challenge.pw_zz0003_01])
  k_with "my LS" => (refine' LS.of ?F9 ?N9 ?d1 ?d2 ?d3 ?d4 ?d5 ?d6 ?m6 ?m5 ?m4 ?m3 ?m2 ?m1 ?hs ?off; (case F9 => assumption); (case N9 => assumption); (case m6 => k_mem); (case m5 => k_mem); (case m4 => k_mem); (case m3 => k_mem); (case m2 => k_mem); (case m1 => k_mem); (case d1 => assumption); (case d2 => assumption); (case d3 => assumption); (case d4 => assumption); (case d5 => assumption); (case d6 => assumption); (case hs => walk_at "my sub"); (case off => walk_at "my off"))
  k_with "my off" => first | assumption | (refine off_add ?_ (by omega); walk_at "my off")
  k_with "subscriptTail Name Slice ref ref" => (k_here; (with_reducible show wpAny _ _ (subscriptTail _ (PySem.Expr.Slice (some _) none none _) (Value.ref _) (Value.ref _)) _ _ _); k_dflt (refine' my_from (j := 2) ?k1 ?k2 ?k3 ?k4 ?k5 ?k6 ?_ ?k8 ?k9; (case k1 => k_asm); (case k2 => k_asm); (case k3 => k_mem); (case k4 => exact IsPart.int _ _); (case k5 => exact IsPart.none); (case k6 => walk_at "my len"); (case k8 => with_unfolding_all rfl); (case k9 => (intro _; with_unfolding_all rfl))); intro _ _ _ _ _; (try k_sweep); (try dsimp only))
  k_with "my law" => (dsimp only [ptBody, forB, lawBody, lawScope, fdBody, fdScope, nth, PySem.Challenge.pw_zz0003_01])
  trivial
def bw (p one other : Pt) : Bool := pltI one p && (pltI p other && decide (turn one other p = 0))
def bt1 (p one : Pt) (qs : List Pt) : List Int := (qs.filter fun o => bw p one o).map fun _ => 1
def bt2 (p : Pt) (rs qs : List Pt) : List Int := qs.flatMap fun one => bt1 p one rs
theorem bt1_len (p one : Pt) (qs : List Pt) (k : Nat) : (bt1 p one (qs.take k)).length ≤ qs.length := flen (fun o => bw p one o) (fun _ => (1 : Int)) qs k
theorem bt1_len' (p one : Pt) (qs : List Pt) : (bt1 p one qs).length ≤ qs.length := by
  rw [bt1, List.length_map]; exact List.length_filter_le _ _
theorem bt2_succ {p : Pt} {rs qs : List Pt} {i : Nat} (hi : i < qs.length) : bt2 p rs (qs.take (i + 1)) = bt2 p rs (qs.take i) ++ bt1 p qs[i] rs := by
  rw [bt2, take_succ_at hi, List.flatMap_append]; simp [bt2]
theorem bt2_len {p : Pt} {rs : List Pt} (h : rs.length ≤ 6) : ∀ qs : List Pt, (bt2 p rs qs).length ≤ 6 * qs.length
  | [] => by simp [bt2]
  | q :: qs => by
    have e : bt2 p rs (q :: qs) = bt1 p q rs ++ bt2 p rs qs := by simp [bt2]
    have := bt1_len' p q rs
    have := bt2_len (p := p) h qs
    rw [e, List.length_append, List.length_cons]
    omega
theorem seg6c {lr nr : Nat} {ws : List Value} {rs : List Pt} {v : Value} {p : Pt}
    (B : Below callerA h₀ [] h₀) (X : (hd.heap_39 w.params).In h₀) (T : Top hd.view_39 loose mean mg mb h₀)
    (H : LS h₀ L m v1 (some v) v3 v4 (some (.ref lr)) v6 dat s.heap) (hP : PIn dat v p) (bp : Bd p)
    (hl2 : (lr, listOf ws.toArray nr) ∈ dat) (R2 : PAll dat ws rs) (bd2 : ∀ p ∈ rs, Bd p) (hz2 : rs.length ≤ 6)
    (hret : ∀ D c ys h' tk', IntsAre ys (bt2 p rs rs) → LS h₀ L (fun z => if z = Str.ofString "between" then some (.ref D) else m z) v1 (some v) v3 v4 (some (.ref lr)) v6 ((D, listOf ys.toArray c) :: dat) h' → Q .next { s with heap := h', toks := tk' }) :
    wpAny (model PySem.Challenge.rw_zz0003_01.row.prog w) (callerA.deeper (lawEnv L f cd)) (exec (nth ptBody 2) (lawEnv L f cd)) Q E s := by
  revert X; k_fill; intro X
  walk_at "my law"
  have hvl := R2.length
  obtain ⟨F, ⟨o1, o2, o3, o4, o5, o6, d1, d2, d3, d4, d5, d6, N⟩, off⟩ := H
  k_steps
  refine Stop.go ?_
  refine comp_assign (h₀ := h₀) (L := L) rfl (by with_unfolding_all rfl) (by intro _; with_unfolding_all rfl) (by with_unfolding_all rfl) (by decide) (by rfl) (by decide) (by rfl) (by rfl) ?_
  k_steps
  refine Stop.go ?_
  refine top_list (vs := ws) (k := nr) rfl F N (by k_mem) ?_
  intro I C D h2 h3 tk3 V st c hI hCI hDI hCa hDa hDs
  have hlt6 : @LT.lt Nat _ (L + 1 + 1 + 1 + 1 + 1 + 1) D := Nat.lt_of_lt_of_le (Heap.lt_size (N _ (.head _)).1) hDs
  refine level_next (by rfl) (by rfl) (by intro _; with_unfolding_all rfl) (by rfl) (by rfl) V hCI hDI hCa (Jfix _ fun i ys => IntsAre ys (bt2 p rs (rs.take i))) ?hS st c hI ⟨rfl, .nil⟩ ?turn ?done
  case hS =>
    rintro i m₂ ys led ⟨rfl, hy⟩
    exact .inr ⟨listOf ws.toArray nr, by k_mem, rfl, _, rfl⟩
  case turn =>
    rintro i va m₂ ys led h4 tk4 oI E' hi hva ⟨rfl, hy⟩ hoff ⟨F4, oC, hC, N4, off4, ne4⟩
    obtain ⟨hi', hPa⟩ := R2.val hi hva
    have ba : Bd rs[i] := bd2 _ (List.getElem_mem hi')
    have hxa : (fun y => if y = Str.ofString "one" then some va else m₂ y) (Str.ofString "one") = some va := if_pos rfl
    clear F N V st c hI
    refine tests_nil ?_
    rw [if_pos rfl]
    k_steps
    refine Stop.go ?_
    refine in_list (C := C) (D := D) (ys := ys) (vs := ws) (k := nr) (led := (I, oI) :: _) (by rfl) rfl (CS.of F4 N4 hC (.head _) (.tail _ (.head _)) (fun q hq => .tail _ (.tail _ hq)) off4 ne4) (.tail _ (by k_mem)) ?_
    clear F4 N4
    intro I2 h6 V2 st2 c2 hI2 hCI2 hDI2 hCa2 hDa2
    refine level_last (by rfl) (by rfl) (by rfl) (by rfl) V2 hCI2 hDI2 hCa2 hDa2 (fun j m₂ ys nx => nx = (I, oI) :: _ ∧ IntsAre ys (bt2 p rs (rs.take i) ++ bt1 p rs[i] (rs.take j)) ∧ m₂ (Str.ofString "one") = some va) ?hS2 st2 c2 hI2 ⟨rfl, by simpa [bt1] using hy, hxa⟩ ?turn2 ?done2
    case hS2 =>
      rintro j m₂ ys led ⟨rfl, hy, _⟩
      refine ⟨.inr ⟨listOf ws.toArray nr, .tail _ (by k_mem), rfl, _, rfl⟩, ?_⟩
      have e1 := ints_len hy
      rw [List.length_append] at e1
      have e2 := bt2_len (p := p) hz2 (rs.take i)
      have e3 := bt1_len p rs[i] rs j
      rw [List.length_take] at e2
      omega
    case turn2 =>
      clear hy hxa hC st2 c2
      rintro j vb m₃ ys led h7 tk7 oI2 E2 hj hvb ⟨rfl, hy, ha⟩ hoff2 ⟨F7, oC, hC, N7, off7, ne7⟩
      obtain ⟨hj', hPb⟩ := R2.val hj hvb
      have bb : Bd rs[j] := bd2 _ (List.getElem_mem hj')
      have hxb : (fun y => if y = Str.ofString "other" then some vb else m₃ y) (Str.ofString "other") = some vb := if_pos rfl
      have hxa : (fun y => if y = Str.ofString "other" then some vb else m₃ y) (Str.ofString "one") = some va := (if_neg (by decide)).trans ha
      clear V2 hI2
      refine tests_one ?_
      k_steps
      · rename (pltI rs[i] p = true) => q1
        rename (pltI p rs[j] = true) => q2
        rename (turn _ _ _ = 0) => q3
        have hb : bw p rs[i] rs[j] = true := by rw [bw, q1, q2, decide_eq_true q3]; rfl
        refine CEnd.same (by assumption) (by assumption) hC off7 hoff2 ne7 ⟨⟨rfl, ?_, hxa⟩, .inr ⟨listOf ws.toArray nr, .tail _ (by k_mem), rfl, _, rfl⟩, ?_⟩
        · rw [bt1, fpos (p := fun o => bw p rs[i] o) (g := fun _ => (1 : Int)) hj' hb, ← List.append_assoc]
          exact ints_snoc hy _ _
        · have e1 := ints_len hy
          rw [List.length_append] at e1
          have e2 := bt2_len (p := p) hz2 (rs.take i)
          have e3 := bt1_len p rs[i] rs j
          rw [List.length_take] at e2
          omega
      · rename (turn _ _ _ ≠ 0) => q3
        have hb : bw p rs[i] rs[j] = false := by rw [bw, decide_eq_false q3, Bool.and_false, Bool.and_false]
        refine CEnd.same (by assumption) (by assumption) hC off7 hoff2 ne7 ⟨rfl, ?_, hxa⟩
        rw [bt1, fneg (p := fun o => bw p rs[i] o) (g := fun _ => (1 : Int)) hj' hb]
        exact hy
      · rename (pltI p rs[j] = false) => q2
        have hb : bw p rs[i] rs[j] = false := by rw [bw, q2, Bool.false_and, Bool.and_false]
        refine CEnd.same (by assumption) (by assumption) hC off7 hoff2 ne7 ⟨rfl, ?_, hxa⟩
        rw [bt1, fneg (p := fun o => bw p rs[i] o) (g := fun _ => (1 : Int)) hj' hb]
        exact hy
      · rename (pltI rs[i] p = false) => q1
        have hb : bw p rs[i] rs[j] = false := by rw [bw, q1, Bool.false_and]
        refine CEnd.same (by assumption) (by assumption) hC off7 hoff2 ne7 ⟨rfl, ?_, hxa⟩
        rw [bt1, fneg (p := fun o => bw p rs[i] o) (g := fun _ => (1 : Int)) hj' hb]
        exact hy
    case done2 =>
      rintro m₃ ys led h7 tk7 ⟨rfl, hy, ha⟩ c7 hoff7
      have e1 : rs.take ws.toArray.size = rs := by
        rw [List.size_toArray, R2.length, List.take_length]
      rw [e1] at hy
      exact ⟨h7, tk7, m₃, ys, _, rfl, c7, hoff, rfl, by show IntsAre ys (bt2 p rs (rs.take (i + 1))); rw [bt2_succ hi']; exact hy⟩
  case done =>
    rintro m₂ ys led h4 tk4 ⟨rfl, hy⟩ c4 hoff
    refine ⟨_, _, _, _, _, rfl, c4, ?_⟩
    intro h5 tk5 F5 N5 hD5
    have e1 : rs.take ws.toArray.size = rs := by
      rw [List.size_toArray, R2.length, List.take_length]
    rw [e1] at hy
    clear F N V st c c4 hI
    refine hret D ys.length ys _ _ hy ?_
    walk_at "my LS"
end
/- L6d -/
section
theorem reset_L6d {prog : Program} {w : World} {A : Around} {env : Env} {Q : Flow → Shared → Prop} {E : Value → Shared → Prop} {s : Shared} (h : Q .next s) : wpAny (model prog w) A (execs [] env) Q E s := by
  k_with_none
  w_top off
  walk1
  exact h
variable {w : World} {loose : List Str} {mean : ExcName → Option Value} {mg mb : Str → Option Value} {h₀ : Heap} {L f : Addr} {cd : Value} {m : Str → Option Value} {dat : List (Addr × Obj)} {s : Shared}
  {Q : Flow → Shared → Prop} {E : Value → Shared → Prop} {v1 v2 v3 v4 v5 v6 : Option Value}
theorem lines_L6d_1 : True := by
  k_with "my sub" => (intro q9 hq9; first | exact hq9 | exact .tail _ hq9 | (rcases List.mem_cons.mp hq9 with rfl | hq9 <;> k_mem) | k_mem | exact .tail _ (.tail _ hq9) | exact .tail _ (.tail _ (.tail _ hq9)) | exact .tail _ (.tail _ (.tail _ (.tail _ hq9))) | (simp only [List.mem_append, List.mem_cons] at hq9 ⊢; grind))
  k_with "my pall" => first | assumption | exact PAll.mono (by assumption) (by walk_at "my sub")
  k_with "my pin" => first | assumption | exact PIn.mono (by assumption) (by walk_at "my sub")
  k_with "call builtin:len" => (k_here; (with_reducible show wpAny _ _ (call (Value.builtin "len") [Value.ref _]) _ _ _); k_dflt (refine' my_lenP ?k1 ?k2 ?k3 ?k4 ?_; (case k1 => k_asm); (case k2 => k_mem); (case k3 => assumption); (case k4 => omega)); intro _ _; (try dsimp only))
  k_with "my item" => (k_here; (with_reducible show wpAny _ _ (subscriptTail _ _ (Value.ref _) (Value.int _ _)) _ _ _); k_dflt (refine' my_itemA ?k1 ?k2 ?k3 ?k4 ?k5 ?k6 ?_ ?k8 ?k9; (case k1 => k_asm); (case k2 => k_mem); (case k3 => assumption); (case k4 => omega); (case k5 => omega); (case k6 => omega); (case k8 => with_unfolding_all rfl); (case k9 => (intro _; with_unfolding_all rfl))); intro _ _)
  k_with "compareOp Lt" => (k_here; (with_reducible show wpAny _ _ (compareOp CmpOp.Lt _ _) _ _ _); k_dflt (refine' my_lt ?k1 ?k2 ?k3 ?k4 ?_; (case k1 => k_asm); (case k2 => walk_at "my pin"); (case k3 => walk_at "my pin"); (case k4 => ktr_units)))
  k_with "compareOp NotEq" => (k_here; (with_reducible show wpAny _ _ (compareOp CmpOp.NotEq _ _) _ _ _); k_dflt (refine' my_ne ?k1 ?k2 ?k3 ?k4 ?_; (case k1 => k_asm); (case k2 => walk_at "my pin"); (case k3 => walk_at "my pin"); (case k4 => ktr_units)))
  k_with "binaryOp Add ref ref" => (k_here; (with_reducible show wpAny _ _ (binaryOp _ (Value.ref _) (Value.ref _)) _ _ _); k_dflt (refine' my_addP ?k1 ?k2 ?k3 ?k4 ?k7 ?k8 ?k5 ?k6 ?_; (case k1 => k_asm); (case k2 => k_asm); (case k3 => k_mem); (case k4 => k_mem); (case k7 => assumption); (case k8 => walk_at "my pall"); (case k5 => omega); (case k6 => omega)); intro _ _ _ _ _ _ _; (try k_sweep); (try dsimp only))
  k_with "subscriptTail Name Slice ref ref" => (k_here; (with_reducible show wpAny _ _ (subscriptTail _ (PySem.Expr.Slice none none (some _) _) (Value.ref _) (Value.ref _)) _ _ _); k_dflt (refine' my_rev ?k1 ?k2 ?k3 ?k4 ?k5 ?_ ?k8 ?k9; (case k1 => k_asm); (case k2 => k_asm); (case k3 => k_mem); (case k4 => exact IsPart.int _ _); (case k5 => omega); (case k8 => with_unfolding_all rfl); (case k9 => (intro _; with_unfolding_all rfl))); intro _ _ _ _ _; (try k_sweep); (try dsimp only))
  k_with "call ref" => (k_here; (with_reducible show wpAny _ _ (call (Value.ref 53) _) _ _ _); k_dflt (refine' turn_ok ?k1 ?k2 ?k3 ?k4 ?k5 ?k6 ?k7 ?k8 ?k9 ?k10 ?k11 ?k12 ?k13 ?k14 ?_; (case k1 => k_asm); (case k2 => k_asm); (case k3 => k_asm); (case k4 => k_asm); (case k5 => k_asm); (case k6 => first | exact rfl | assumption); (case k7 => ktr_room); (case k8 => ktr_units); (case k9 => walk_at "my pin"); (case k10 => walk_at "my pin"); (case k11 => walk_at "my pin"); (case k12 => walk_at "my bd"); (case k13 => walk_at "my bd"); (case k14 => walk_at "my bd")); intro _ _ _ _ _; (try dsimp only))
  k_with "my bd" => first | assumption | (refine bd_at ?_ ?_ ?_ <;> first | assumption | omega)
  k_with "call ref" => (k_here; (with_reducible show wpAny _ _ (call (Value.ref 60) _) _ _ _); k_dflt (refine' half_ok ?k1 ?k2 ?k3 ?k4 ?k5 ?k6 ?k7 ?k8 ?k9 ?k13 ?k10 ?k11 ?k12 ?_; (case k1 => k_asm); (case k2 => k_asm); (case k3 => k_asm); (case k4 => k_asm); (case k5 => k_asm); (case k6 => first | exact rfl | assumption); (case k7 => ktr_room); (case k8 => ktr_units); (case k9 => k_mem); (case k10 => first | assumption | exact PAll.reverse (by assumption)); (case k13 => walk_at "my sub"); (case k11 => walk_at "my bds"); (case k12 => walk_at "my len")); intro _ _ _ _ _ _ _ _ _; (try dsimp only))
  k_with "my bds" => assumption
  k_with "my len" => first | omega | (simp only [List.length_append, List.length_cons, List.length_nil, List.length_reverse, List.length_map] at *; omega)
  k_with "my law" => (dsimp only [lawBody, lawScope, fdBody, fdScope, nth, PySem.Challenge.pw_zz0003_01])
  k_with "my LS" => (refine' LS.of ?F9 ?N9 ?d1 ?d2 ?d3 ?d4 ?d5 ?d6 ?m6 ?m5 ?m4 ?m3 ?m2 ?m1 ?hs ?off; (case F9 => assumption); (case N9 => assumption); (case m6 => k_mem); (case m5 => k_mem); (case m4 => k_mem); (case m3 => k_mem); (case m2 => k_mem); (case m1 => k_mem); (case d1 => assumption); (case d2 => assumption); (case d3 => assumption); (case d4 => assumption); (case d5 => assumption); (case d6 => assumption); (case hs => walk_at "my sub"); (case off => walk_at "my off"))
  k_with "my off" => first | assumption | (refine off_add ?_ (by omega); walk_at "my off")
  k_with "subscriptTail Name Slice ref ref" => (k_here; (with_reducible show wpAny _ _ (subscriptTail _ (PySem.Expr.Slice (some _) none none _) (Value.ref _) (Value.ref _)) _ _ _); k_dflt (refine' my_from (j := 2) ?k1 ?k2 ?k3 ?k4 ?k5 ?k6 ?_ ?k8 ?k9; (case k1 => k_asm); (case k2 => k_asm); (case k3 => k_mem); (case k4 => exact IsPart.int _ _); (case k5 => exact IsPart.none); (case k6 => walk_at "my len"); (case k8 => with_unfolding_all rfl); (case k9 => (intro _; with_unfolding_all rfl))); intro _ _ _ _ _; (try k_sweep); (try dsimp only))
  k_with "my law" => (dsimp only [ptBody, forB, lawBody, lawScope, fdBody, fdScope, nth, PySem.Challenge.pw_zz0003_01])
  k_with "compareOp In" => (k_here; (with_reducible show wpAny _ _ (compareOp CmpOp.In _ (Value.ref _)) _ _ _); k_dflt (refine' my_in ?k1 ?k2 ?k3 ?k4 ?k5 ?k6 ?k7 ?_; (case k1 => k_asm); (case k2 => k_mem); (case k3 => assumption); (case k4 => walk_at "my sub"); (case k5 => assumption); (case k6 => walk_at "my sub"); (case k7 => ktr_units)))
  k_with "compareOp Eq ref ref" => (k_here; (with_reducible show wpAny _ _ (compareOp CmpOp.Eq (Value.ref _) (Value.ref _)) _ _ _); k_dflt (refine' my_eqNil ?k1 ?k2 ?k3 ?k4 ?k5 ?_; (case k1 => k_asm); (case k2 => k_mem); (case k3 => assumption); (case k4 => k_mem); (case k5 => ktr_units)))
  trivial
theorem seg6d {lr nr di ni db nb : Nat} {ws yi yb : List Value} {rs : List Pt} {v : Value} {p : Pt} {xi xb : List Int}
    (B : Below callerA h₀ [] h₀) (X : (hd.heap_39 w.params).In h₀) (T : Top hd.view_39 loose mean mg mb h₀)
    (H : LS h₀ L m v1 (some v) (some (.ref lr)) v4 v5 v6 dat s.heap) (hP : PIn dat v p)
    (hl2 : (lr, listOf ws.toArray nr) ∈ dat) (R2 : PAll dat ws rs) (hz2 : rs.length ≤ 6)
    (hmi : m (Str.ofString "inside") = some (.ref di)) (hmb : m (Str.ofString "between") = some (.ref db))
    (hli : (di, listOf yi.toArray ni) ∈ dat) (Ri : IntsAre yi xi) (hlb : (db, listOf yb.toArray nb) ∈ dat) (Rb : IntsAre yb xb)
    (heq : decide (p ∈ rs) = (decide (xi = []) && decide (xb = [])))
    (hret : ∀ m h' tk', LS h₀ L m v1 (some v) (some (.ref lr)) v4 v5 v6 dat h' → Q .next { s with heap := h', toks := tk' }) :
    wpAny (model PySem.Challenge.rw_zz0003_01.row.prog w) (callerA.deeper (lawEnv L f cd)) (exec (nth ptBody 3) (lawEnv L f cd)) Q E s := by
  revert X; k_fill; intro X
  walk_at "my law"
  have hvl := R2.length
  obtain ⟨F, ⟨o1, o2, o3, o4, o5, o6, d1, d2, d3, d4, d5, d6, N⟩, off⟩ := H
  obtain ⟨m', F'⟩ := fr_known2 (k1 := Str.ofString "inside") (k2 := Str.ofString "between") F hmi hmb
  clear F hmi hmb
  k_steps
  · rename (_ = true) => q
    rename (xi = []) => q0
    simp [heq, q0] at q
  · exact hret _ _ _ (by walk_at "my LS")
  · rename (_ = true) => q
    rename (¬ xi = []) => q0
    simp [heq, q0] at q
  · exact hret _ _ _ (by walk_at "my LS")
end
/- L6 -/
section
theorem reset_L6 {prog : Program} {w : World} {A : Around} {env : Env} {Q : Flow → Shared → Prop} {E : Value → Shared → Prop} {s : Shared} (h : Q .next s) : wpAny (model prog w) A (execs [] env) Q E s := by
  k_with_none
  w_top off
  walk1
  exact h
variable {w : World} {loose : List Str} {mean : ExcName → Option Value} {mg mb : Str → Option Value} {h₀ : Heap} {L f : Addr} {cd : Value} {m : Str → Option Value} {dat : List (Addr × Obj)} {s : Shared}
  {Q : Flow → Shared → Prop} {E : Value → Shared → Prop} {v1 v2 v3 v4 v5 v6 : Option Value}
theorem lines_L6_1 : True := by
  k_with "my sub" => (intro q9 hq9; first | exact hq9 | exact .tail _ hq9 | (rcases List.mem_cons.mp hq9 with rfl | hq9 <;> k_mem) | k_mem | exact .tail _ (.tail _ hq9) | exact .tail _ (.tail _ (.tail _ hq9)) | exact .tail _ (.tail _ (.tail _ (.tail _ hq9))) | (simp only [List.mem_append, List.mem_cons] at hq9 ⊢; grind))
  k_with "my pall" => first | assumption | exact PAll.mono (by assumption) (by walk_at "my sub")
  k_with "my pin" => first | assumption | exact PIn.mono (by assumption) (by walk_at "my sub")
  k_with "call builtin:len" => (k_here; (with_reducible show wpAny _ _ (call (Value.builtin "len") [Value.ref _]) _ _ _); k_dflt (refine' my_lenP ?k1 ?k2 ?k3 ?k4 ?_; (case k1 => k_asm); (case k2 => k_mem); (case k3 => assumption); (case k4 => omega)); intro _ _; (try dsimp only))
  k_with "my item" => (k_here; (with_reducible show wpAny _ _ (subscriptTail _ _ (Value.ref _) (Value.int _ _)) _ _ _); k_dflt (refine' my_itemA ?k1 ?k2 ?k3 ?k4 ?k5 ?k6 ?_ ?k8 ?k9; (case k1 => k_asm); (case k2 => k_mem); (case k3 => assumption); (case k4 => omega); (case k5 => omega); (case k6 => omega); (case k8 => with_unfolding_all rfl); (case k9 => (intro _; with_unfolding_all rfl))); intro _ _)
  k_with "compareOp Lt" => (k_here; (with_reducible show wpAny _ _ (compareOp CmpOp.Lt _ _) _ _ _); k_dflt (refine' my_lt ?k1 ?k2 ?k3 ?k4 ?_; (case k1 => k_asm); (case k2 => walk_at "my pin"); (case k3 => walk_at "my pin"); (case k4 => ktr_units)))
  k_with "compareOp NotEq" => (k_here; (with_reducible show wpAny _ _ (compareOp CmpOp.NotEq _ _) _ _ _); k_dflt (refine' my_ne ?k1 ?k2 ?k3 ?k4 ?_; (case k1 => k_asm); (case k2 => walk_at "my pin"); (case k3 => walk_at "my pin"); (case k4 => ktr_units)))
  k_with "binaryOp Add ref ref" => (k_here; (with_reducible show wpAny _ _ (binaryOp _ (Value.ref _) (Value.ref _)) _ _ _); k_dflt (refine' my_addP ?k1 ?k2 ?k3 ?k4 ?k7 ?k8 ?k5 ?k6 ?_; (case k1 => k_asm); (case k2 => k_asm); (case k3 => k_mem); (case k4 => k_mem); (case k7 => assumption); (case k8 => walk_at "my pall"); (case k5 => omega); (case k6 => omega)); intro _ _ _ _ _ _ _; (try k_sweep); (try dsimp only))
  k_with "subscriptTail Name Slice ref ref" => (k_here; (with_reducible show wpAny _ _ (subscriptTail _ (PySem.Expr.Slice none none (some _) _) (Value.ref _) (Value.ref _)) _ _ _); k_dflt (refine' my_rev ?k1 ?k2 ?k3 ?k4 ?k5 ?_ ?k8 ?k9; (case k1 => k_asm); (case k2 => k_asm); (case k3 => k_mem); (case k4 => exact IsPart.int _ _); (case k5 => omega); (case k8 => with_unfolding_all rfl); (case k9 => (intro _; with_unfolding_all rfl))); intro _ _ _ _ _; (try k_sweep); (try dsimp only))
  k_with "call ref" => (k_here; (with_reducible show wpAny _ _ (call (Value.ref 53) _) _ _ _); k_dflt (refine' turn_ok ?k1 ?k2 ?k3 ?k4 ?k5 ?k6 ?k7 ?k8 ?k9 ?k10 ?k11 ?k12 ?k13 ?k14 ?_; (case k1 => k_asm); (case k2 => k_asm); (case k3 => k_asm); (case k4 => k_asm); (case k5 => k_asm); (case k6 => first | exact rfl | assumption); (case k7 => ktr_room); (case k8 => ktr_units); (case k9 => walk_at "my pin"); (case k10 => walk_at "my pin"); (case k11 => walk_at "my pin"); (case k12 => walk_at "my bd"); (case k13 => walk_at "my bd"); (case k14 => walk_at "my bd")); intro _ _ _ _ _; (try dsimp only))
  k_with "my bd" => first | assumption | (refine bd_at ?_ ?_ ?_ <;> first | assumption | omega)
  k_with "call ref" => (k_here; (with_reducible show wpAny _ _ (call (Value.ref 60) _) _ _ _); k_dflt (refine' half_ok ?k1 ?k2 ?k3 ?k4 ?k5 ?k6 ?k7 ?k8 ?k9 ?k13 ?k10 ?k11 ?k12 ?_; (case k1 => k_asm); (case k2 => k_asm); (case k3 => k_asm); (case k4 => k_asm); (case k5 => k_asm); (case k6 => first | exact rfl | assumption); (case k7 => ktr_room); (case k8 => ktr_units); (case k9 => k_mem); (case k10 => first | assumption | exact PAll.reverse (by assumption)); (case k13 => walk_at "my sub"); (case k11 => walk_at "my bds"); (case k12 => walk_at "my len")); intro _ _ _ _ _ _ _ _ _; (try dsimp only))
  k_with "my bds" => assumption
  k_with "my len" => first | omega | (simp only [List.length_append, List.length_cons, List.length_nil, List.length_reverse, List.length_map] at *; omega)
  k_with "my law" => (dsimp only [lawBody, lawScope, fdBody, fdScope, nth, PySem.Challenge.pw_zz0003_01])
  k_with "my LS" => (refine' LS.of ?F9 ?N9 ?d1 ?d2 ?d3 ?d4 ?d5 ?d6 ?m6 ?m5 ?m4 ?m3 ?m2 ?m1 ?hs ?off; (case F9 => assumption); (case N9 => assumption); (case m6 => k_mem); (case m5 => k_mem); (case m4 => k_mem); (case m3 => k_mem); (case m2 => k_mem); (case m1 => k_mem); (case d1 => assumption); (case d2 => assumption); (case d3 => assumption); (case d4 => assumption); (case d5 => assumption); (case d6 => assumption); (case hs => walk_at "my sub"); (case off => walk_at "my off"))
  k_with "my off" => first | assumption | (refine off_add ?_ (by omega); walk_at "my off")
  k_with "subscriptTail Name Slice ref ref" => (k_here; (with_reducible show wpAny _ _ (subscriptTail _ (PySem.Expr.Slice (some _) none none _) (Value.ref _) (Value.ref _)) _ _ _); k_dflt (refine' my_from (j := 2) ?k1 ?k2 ?k3 ?k4 ?k5 ?k6 ?_ ?k8 ?k9; (case k1 => k_asm); (case k2 => k_asm); (case k3 => k_mem); (case k4 => exact IsPart.int _ _); (case k5 => exact IsPart.none); (case k6 => walk_at "my len"); (case k8 => with_unfolding_all rfl); (case k9 => (intro _; with_unfolding_all rfl))); intro _ _ _ _ _; (try k_sweep); (try dsimp only))
  trivial
theorem seg6 {lp np lr nr : Nat} {vs ws : List Value} {ps rs : List Pt}
    (B : Below callerA h₀ [] h₀) (X : (hd.heap_39 w.params).In h₀) (T : Top hd.view_39 loose mean mg mb h₀)
    (H : LS h₀ L m (some (.ref lp)) v2 (some (.ref lr)) v4 v5 v6 dat s.heap)
    (hl : (lp, listOf vs.toArray np) ∈ dat) (R : PAll dat vs ps) (bd : ∀ p ∈ ps, Bd p) (hz : ps.length ≤ 6)
    (hl2 : (lr, listOf ws.toArray nr) ∈ dat) (R2 : PAll dat ws rs) (hz2 : rs.length ≤ 6)
    (hc : ∀ p ∈ ps, decide (p ∈ rs) = (decide (in3 (rest ps p) p (rest ps p).length = []) && decide (bt2 p (rest ps p) (rest ps p) = [])))
    (hret : ∀ m v2 v5 h' tk', LS h₀ L m (some (.ref lp)) v2 (some (.ref lr)) v4 v5 v6 dat h' → Q .next { s with heap := h', toks := tk' }) :
    wpAny (model PySem.Challenge.rw_zz0003_01.row.prog w) (callerA.deeper (lawEnv L f cd)) (exec (nth lawBody 6) (lawEnv L f cd)) Q E s := by
  obtain ⟨px, pi, pos, e⟩ : ∃ px pi pos, nth lawBody 6 = .For (.Name (Str.ofString "point") px) (.Name (Str.ofString "points") pi) ptBody [] pos := ⟨_, _, _, rfl⟩
  have e2 : ptBody = [nth ptBody 0, nth ptBody 1, nth ptBody 2, nth ptBody 3] := rfl
  rw [e]
  refine wpAny_For ?_ (by intro _; with_unfolding_all rfl)
  have X0 := X
  revert X; k_fill; intro X
  obtain ⟨F, ⟨o1, o2, o3, o4, o5, o6, d1, d2, d3, d4, d5, d6, N⟩, off⟩ := id H
  k_steps
  refine Stop.go ?_
  clear F N d1 d2 d3 d4 d5 d6 off X
  refine for2_list (dat := dat) rfl H hl ?_ ?_
  · clear H o1 o2 o3 o4 o5 o6
    intro i v m v5 h tk I oI E' hi hv hLI hnI H
    obtain ⟨hi', hP⟩ := R.val hi hv
    have hin := List.getElem_mem hi'
    have hs1 : ∀ q ∈ dat, q ∈ (I, oI) :: dat := fun q hq => .tail _ hq
    have bp := bd _ hin
    have brest : ∀ q ∈ rest ps ps[i], Bd q := fun q hq => bd q (List.mem_filter.mp hq).1
    have lrest := rest_len ps ps[i]
    rw [e2]
    refine wpAny_execs_cons ?_
    refine seg6a B X0 T H (hs1 _ hl) (R.mono hs1) hz (hP.mono hs1) ?_
    intro Dr cr yr h1 tk1 Rr H1
    refine wpAny_execs_cons ?_
    refine seg6b B X0 T H1 (hP.mono fun q hq => .tail _ (.tail _ hq)) bp (.head _) (Rr.mono fun q hq => .tail _ hq) brest (by omega) ?_
    intro Di ci yi h2 tk2 Ri H2
    refine wpAny_execs_cons ?_
    refine seg6c B X0 T H2 (hP.mono fun q hq => .tail _ (.tail _ (.tail _ hq))) bp (.tail _ (.head _)) (Rr.mono fun q hq => .tail _ (.tail _ hq)) brest (by omega) ?_
    intro Db cb yb h3 tk3 Rb H3
    refine wpAny_execs_cons ?_
    refine seg6d B X0 T H3 (hP.mono fun q hq => .tail _ (.tail _ (.tail _ (.tail _ hq)))) (.tail _ (.tail _ (.tail _ (.tail _ hl2)))) (R2.mono fun q hq => .tail _ (.tail _ (.tail _ (.tail _ hq)))) hz2 ?_ ?_ (.tail _ (.head _)) Ri (.head _) Rb (hc _ hin) ?_
    · rfl
    · rfl
    · intro m4 h4 tk4 H4
      refine wpAny_execs_nil ⟨h4, tk4, m4, _, _, rfl, H4.sub fun q hq => .tail _ (.tail _ (.tail _ hq))⟩
  · intro m v2 v5 h tk H
    exact hret m v2 v5 h tk H
end
/- L7 -/
section
theorem reset_L7 {prog : Program} {w : World} {A : Around} {env : Env} {Q : Flow → Shared → Prop} {E : Value → Shared → Prop} {s : Shared} (h : Q .next s) : wpAny (model prog w) A (execs [] env) Q E s := by
  k_with_none
  w_top off
  walk1
  exact h
variable {w : World} {loose : List Str} {mean : ExcName → Option Value} {mg mb : Str → Option Value} {h₀ : Heap} {L f : Addr} {cd : Value} {m : Str → Option Value} {dat : List (Addr × Obj)} {s : Shared}
  {Q : Flow → Shared → Prop} {E : Value → Shared → Prop} {v1 v2 v3 v4 v5 v6 : Option Value}
local macro_rules | `(tactic| walk_at "call type:dict") => `(tactic| (k_here; refine Stop.of ?_))
local macro_rules | `(tactic| walk_at "call builtin:sorted") => `(tactic| (k_here; (with_reducible show wpAny _ _ (call (Value.builtin "sorted") [Value.ref _]) _ _ _); k_dflt (refine' my_sorted2 ?k1 ?k2 ?k3 ?k4 ?k5 ?k6 ?k7 ?k8 ?_; (case k1 => k_asm); (case k2 => k_asm); (case k3 => k_mem); (case k4 => assumption); (case k5 => walk_at "my sub"); (case k6 => assumption); (case k7 => omega); (case k8 => omega)); intro D' ws' c' h' F' N' l1 R'; (have l2 := l1); (try k_lt l2); (try dsimp only)))
theorem lines_L7_1 : True := by
  k_with "my sub" => (intro q9 hq9; first | exact hq9 | exact .tail _ hq9 | (rcases List.mem_cons.mp hq9 with rfl | hq9 <;> k_mem) | k_mem | exact .tail _ (.tail _ hq9) | exact .tail _ (.tail _ (.tail _ hq9)) | exact .tail _ (.tail _ (.tail _ (.tail _ hq9))) | (simp only [List.mem_append, List.mem_cons] at hq9 ⊢; grind))
  k_with "my pall" => first | assumption | exact PAll.mono (by assumption) (by walk_at "my sub")
  k_with "my pin" => first | assumption | exact PIn.mono (by assumption) (by walk_at "my sub")
  k_with "call builtin:len" => (k_here; (with_reducible show wpAny _ _ (call (Value.builtin "len") [Value.ref _]) _ _ _); k_dflt (refine' my_lenP ?k1 ?k2 ?k3 ?k4 ?_; (case k1 => k_asm); (case k2 => k_mem); (case k3 => assumption); (case k4 => omega)); intro _ _; (try dsimp only))
  k_with "my item" => (k_here; (with_reducible show wpAny _ _ (subscriptTail _ _ (Value.ref _) (Value.int _ _)) _ _ _); k_dflt (refine' my_itemA ?k1 ?k2 ?k3 ?k4 ?k5 ?k6 ?_ ?k8 ?k9; (case k1 => k_asm); (case k2 => k_mem); (case k3 => assumption); (case k4 => omega); (case k5 => omega); (case k6 => omega); (case k8 => with_unfolding_all rfl); (case k9 => (intro _; with_unfolding_all rfl))); intro _ _)
  k_with "compareOp Lt" => (k_here; (with_reducible show wpAny _ _ (compareOp CmpOp.Lt _ _) _ _ _); k_dflt (refine' my_lt ?k1 ?k2 ?k3 ?k4 ?_; (case k1 => k_asm); (case k2 => walk_at "my pin"); (case k3 => walk_at "my pin"); (case k4 => ktr_units)))
  k_with "compareOp NotEq" => (k_here; (with_reducible show wpAny _ _ (compareOp CmpOp.NotEq _ _) _ _ _); k_dflt (refine' my_ne ?k1 ?k2 ?k3 ?k4 ?_; (case k1 => k_asm); (case k2 => walk_at "my pin"); (case k3 => walk_at "my pin"); (case k4 => ktr_units)))
  k_with "binaryOp Add ref ref" => (k_here; (with_reducible show wpAny _ _ (binaryOp _ (Value.ref _) (Value.ref _)) _ _ _); k_dflt (refine' my_addP ?k1 ?k2 ?k3 ?k4 ?k7 ?k8 ?k5 ?k6 ?_; (case k1 => k_asm); (case k2 => k_asm); (case k3 => k_mem); (case k4 => k_mem); (case k7 => assumption); (case k8 => walk_at "my pall"); (case k5 => omega); (case k6 => omega)); intro _ _ _ _ _ _ _; (try k_sweep); (try dsimp only))
  k_with "subscriptTail Name Slice ref ref" => (k_here; (with_reducible show wpAny _ _ (subscriptTail _ (PySem.Expr.Slice none none (some _) _) (Value.ref _) (Value.ref _)) _ _ _); k_dflt (refine' my_rev ?k1 ?k2 ?k3 ?k4 ?k5 ?_ ?k8 ?k9; (case k1 => k_asm); (case k2 => k_asm); (case k3 => k_mem); (case k4 => exact IsPart.int _ _); (case k5 => omega); (case k8 => with_unfolding_all rfl); (case k9 => (intro _; with_unfolding_all rfl))); intro _ _ _ _ _; (try k_sweep); (try dsimp only))
  k_with "call ref" => (k_here; (with_reducible show wpAny _ _ (call (Value.ref 53) _) _ _ _); k_dflt (refine' turn_ok ?k1 ?k2 ?k3 ?k4 ?k5 ?k6 ?k7 ?k8 ?k9 ?k10 ?k11 ?k12 ?k13 ?k14 ?_; (case k1 => k_asm); (case k2 => k_asm); (case k3 => k_asm); (case k4 => k_asm); (case k5 => k_asm); (case k6 => first | exact rfl | assumption); (case k7 => ktr_room); (case k8 => ktr_units); (case k9 => walk_at "my pin"); (case k10 => walk_at "my pin"); (case k11 => walk_at "my pin"); (case k12 => walk_at "my bd"); (case k13 => walk_at "my bd"); (case k14 => walk_at "my bd")); intro _ _ _ _ _; (try dsimp only))
  k_with "my bd" => first | assumption | (refine bd_at ?_ ?_ ?_ <;> first | assumption | omega)
  k_with "call ref" => (k_here; (with_reducible show wpAny _ _ (call (Value.ref 60) _) _ _ _); k_dflt (refine' half_ok ?k1 ?k2 ?k3 ?k4 ?k5 ?k6 ?k7 ?k8 ?k9 ?k13 ?k10 ?k11 ?k12 ?_; (case k1 => k_asm); (case k2 => k_asm); (case k3 => k_asm); (case k4 => k_asm); (case k5 => k_asm); (case k6 => first | exact rfl | assumption); (case k7 => ktr_room); (case k8 => ktr_units); (case k9 => k_mem); (case k10 => first | assumption | exact PAll.reverse (by assumption)); (case k13 => walk_at "my sub"); (case k11 => walk_at "my bds"); (case k12 => walk_at "my len")); intro _ _ _ _ _ _ _ _ _; (try dsimp only))
  k_with "my bds" => assumption
  k_with "my len" => first | omega | (simp only [List.length_append, List.length_cons, List.length_nil, List.length_reverse, List.length_map] at *; omega)
  k_with "my law" => (dsimp only [lawBody, lawScope, fdBody, fdScope, nth, PySem.Challenge.pw_zz0003_01])
  k_with "my LS" => (refine' LS.of ?F9 ?N9 ?d1 ?d2 ?d3 ?d4 ?d5 ?d6 ?m6 ?m5 ?m4 ?m3 ?m2 ?m1 ?hs ?off; (case F9 => assumption); (case N9 => assumption); (case m6 => k_mem); (case m5 => k_mem); (case m4 => k_mem); (case m3 => k_mem); (case m2 => k_mem); (case m1 => k_mem); (case d1 => assumption); (case d2 => assumption); (case d3 => assumption); (case d4 => assumption); (case d5 => assumption); (case d6 => assumption); (case hs => walk_at "my sub"); (case off => walk_at "my off"))
  k_with "my off" => first | assumption | (refine off_add ?_ (by omega); walk_at "my off")
  k_with "subscriptTail Name Slice ref ref" => (k_here; (with_reducible show wpAny _ _ (subscriptTail _ (PySem.Expr.Slice (some _) none none _) (Value.ref _) (Value.ref _)) _ _ _); k_dflt (refine' my_from (j := 2) ?k1 ?k2 ?k3 ?k4 ?k5 ?k6 ?_ ?k8 ?k9; (case k1 => k_asm); (case k2 => k_asm); (case k3 => k_mem); (case k4 => exact IsPart.int _ _); (case k5 => exact IsPart.none); (case k6 => walk_at "my len"); (case k8 => with_unfolding_all rfl); (case k9 => (intro _; with_unfolding_all rfl))); intro _ _ _ _ _; (try k_sweep); (try dsimp only))
  k_with "call builtin:len" => (k_here; (with_reducible show wpAny _ _ (call (Value.builtin "len") [Value.ref _]) _ _ _); k_dflt (refine' my_dlen ?k1 ?k2 ?k3 ?_; (case k1 => assumption); (case k2 => assumption); (case k3 => omega)); intro _ _; (try dsimp only))
  k_with "compareOp NotEq ref ref" => (k_here; (with_reducible show wpAny _ _ (compareOp CmpOp.NotEq (Value.ref _) (Value.ref _)) _ _ _); k_dflt (refine' my_neL ?k1 ?k2 ?k3 ?k4 ?k5 ?k6 ?k7 ?k8 ?_; (case k1 => k_asm); (case k2 => k_mem); (case k3 => assumption); (case k4 => walk_at "my sub"); (case k5 => k_mem); (case k6 => assumption); (case k7 => walk_at "my sub"); (case k8 => ktr_units)))
  trivial
set_option maxHeartbeats 4000000 in
theorem seg7 {lr nr : Nat} {ws : List Value} {rs : List Pt}
    (B : Below callerA h₀ [] h₀) (X : (hd.heap_39 w.params).In h₀) (T : Top hd.view_39 loose mean mg mb h₀) (hbig : sysModules < h₀.objs.size)
    (H : LS h₀ L m v1 v2 (some (.ref lr)) v4 v5 v6 dat s.heap)
    (hl2 : (lr, listOf ws.toArray nr) ∈ dat) (R2 : PAll dat ws rs) (bd2 : ∀ p ∈ rs, Bd p) (hz2 : rs.length ≤ 6) (h3 : 3 ≤ rs.length) (hnd : rs.Nodup) (hnd2 : (ring rs).Nodup) (hlen : (ring rs).length = rs.length)
    (heq : ordr (ring rs) = ordr rs)
    (hret : ∀ m h' tk', LS h₀ L m v1 v2 (some (.ref lr)) v4 v5 v6 dat h' → Q .next { s with heap := h', toks := tk' }) :
    wpAny (model PySem.Challenge.rw_zz0003_01.row.prog w) (callerA.deeper (lawEnv L f cd)) (exec (nth lawBody 7) (lawEnv L f cd)) Q E s := by
  revert X; k_fill; intro X
  walk_at "my law"
  have hvl2 := R2.length
  obtain ⟨F, ⟨o1, o2, o3, o4, o5, o6, d1, d2, d3, d4, d5, d6, N⟩, off⟩ := H
  k_steps
  · exact absurd heq (by assumption)
  refine Stop.go ?_
  refine comp_eval (h₀ := h₀) (L := L) (by intro _; with_unfolding_all rfl) (by with_unfolding_all rfl) (by decide) (by rfl) (by decide) ?_
  k_steps
  refine Stop.go ?_
  rename Fr _ _ _ _ => F1
  rename News _ _ _ _ => N0
  have N1 : News h₀ L _ ((L + 1 + 1 + 1 + 1 + 1 + 1, o6) :: (L + 1 + 1 + 1 + 1 + 1, o5) :: (L + 1 + 1 + 1 + 1, o4) :: (L + 1 + 1 + 1, o3) :: (L + 1 + 1, o2) :: (L + 1, o1) :: dat) := fun p hp => N0 p (.tail _ (.tail _ (.tail _ hp)))
  clear N0
  refine top_list (vs := ws) (k := nr) rfl F1 N1 (by k_mem) ?_
  intro I C D h2 h3' tk3 V st c hI hCI hDI hCa hDa hDs
  refine level_last (by rfl) (by rfl) (by rfl) (by rfl) V hCI hDI hCa hDa (fun i _ ys nx => ∃ nw, nx = nw ++ ((L + 1 + 1 + 1 + 1 + 1 + 1, o6) :: (L + 1 + 1 + 1 + 1 + 1, o5) :: (L + 1 + 1 + 1 + 1, o4) :: (L + 1 + 1 + 1, o3) :: (L + 1 + 1, o2) :: (L + 1, o1) :: dat) ∧ KVs nx ys (rs.take i)) ?hS st c hI ⟨[], rfl, .nil⟩ ?turn ?done
  case hS =>
    rintro i m₂ ys led ⟨nw, rfl, hy⟩
    refine ⟨.inr ⟨listOf ws.toArray nr, by k_mem, rfl, _, rfl⟩, ?_⟩
    have := hy.length
    rw [List.length_take] at this
    omega
  case turn =>
    rintro i v m₂ ys led h4 tk4 oI E' hi hv ⟨nw, rfl, hy⟩ hoff ⟨F4, oC, hC, N4, off4, ne4⟩
    obtain ⟨hi', hP⟩ := R2.val hi hv
    have hx : (fun y => if y = Str.ofString "point" then some v else m₂ y) (Str.ofString "point") = some v := if_pos rfl
    clear V st c hI F1 N1
    refine tests_nil ?_
    k_steps
    rename (_ ∧ _ ∧ _ ∧ AllLt _ _) => l2
    rename_i D9 h9 F9 N9
    refine CEnd.add1 F9 N9 hC (Nat.ne_of_lt l2.1) (Nat.ne_of_lt l2.2.1) (Nat.ne_of_lt l2.2.2.1) off4 hoff ne4 ⟨⟨_ :: nw, rfl, ?_⟩, .inr ⟨listOf ws.toArray nr, .tail _ (by k_mem), rfl, _, rfl⟩, ?_⟩
    · rw [take_succ_at hi']
      exact (hy.mono fun q hq => .tail _ hq).append (.cons (.head _) (hP.mono fun q hq => .tail _ (List.mem_append_right _ (.tail _ (.tail _ (.tail _ (.tail _ (.tail _ (.tail _ hq)))))))) .nil)
    · have := hy.length
      rw [List.length_take] at this
      omega
  case done =>
    rintro m₂ ys led h4 tk4 ⟨nw, rfl, hy⟩ c4 hoff
    refine ⟨_, _, _, _, _, rfl, c4, ?_⟩
    intro h5 F5 N5 hD5
    have e1 : rs.take ws.toArray.size = rs := by
      rw [List.size_toArray, R2.length, List.take_length]
    rw [e1] at hy
    clear V st c c4 hI F1 N1
    k_steps
    refine Stop.go ?_
    refine my_dict hbig rfl (by ktr_units) F5 N5 (.head _) hy (fun q hq => .tail _ hq) hnd (by omega) ?_
    intro d9 o9 h9 tk9 xs9 hD9 hx9 lo9 F9 N9 l9
    k_steps
    · exfalso; omega
    · exact hret _ _ _ (by walk_at "my LS")
end
/- L8 -/
section
theorem reset_L8 {prog : Program} {w : World} {A : Around} {env : Env} {Q : Flow → Shared → Prop} {E : Value → Shared → Prop} {s : Shared} (h : Q .next s) : wpAny (model prog w) A (execs [] env) Q E s := by
  k_with_none
  w_top off
  walk1
  exact h
variable {w : World} {loose : List Str} {mean : ExcName → Option Value} {mg mb : Str → Option Value} {h₀ : Heap} {L f : Addr} {cd : Value} {m : Str → Option Value} {dat : List (Addr × Obj)} {s : Shared}
  {Q : Flow → Shared → Prop} {E : Value → Shared → Prop} {v1 v2 v3 v4 v5 v6 : Option Value}
local macro_rules | `(tactic| walk_at "last subscriptTail") => `(tactic| (rename PIn _ _ _ => R9; (obtain ⟨a9, n9, t9, u9, e9, h9⟩ := R9); subst e9))
theorem lines_L8_1 : True := by
  k_with "my sub" => (intro q9 hq9; first | exact hq9 | exact .tail _ hq9 | (rcases List.mem_cons.mp hq9 with rfl | hq9 <;> k_mem) | k_mem | exact .tail _ (.tail _ hq9) | exact .tail _ (.tail _ (.tail _ hq9)) | exact .tail _ (.tail _ (.tail _ (.tail _ hq9))) | (simp only [List.mem_append, List.mem_cons] at hq9 ⊢; grind))
  k_with "my pall" => first | assumption | exact PAll.mono (by assumption) (by walk_at "my sub")
  k_with "my pin" => first | assumption | exact PIn.mono (by assumption) (by walk_at "my sub")
  k_with "call builtin:len" => (k_here; (with_reducible show wpAny _ _ (call (Value.builtin "len") [Value.ref _]) _ _ _); k_dflt (refine' my_lenP ?k1 ?k2 ?k3 ?k4 ?_; (case k1 => k_asm); (case k2 => k_mem); (case k3 => assumption); (case k4 => omega)); intro _ _; (try dsimp only))
  k_with "my item" => (k_here; (with_reducible show wpAny _ _ (subscriptTail _ _ (Value.ref _) (Value.int _ _)) _ _ _); k_dflt (refine' my_itemA ?k1 ?k2 ?k3 ?k4 ?k5 ?k6 ?_ ?k8 ?k9; (case k1 => k_asm); (case k2 => k_mem); (case k3 => assumption); (case k4 => omega); (case k5 => omega); (case k6 => omega); (case k8 => with_unfolding_all rfl); (case k9 => (intro _; with_unfolding_all rfl))); intro _ _)
  k_with "compareOp Lt" => (k_here; (with_reducible show wpAny _ _ (compareOp CmpOp.Lt _ _) _ _ _); k_dflt (refine' my_lt ?k1 ?k2 ?k3 ?k4 ?_; (case k1 => k_asm); (case k2 => walk_at "my pin"); (case k3 => walk_at "my pin"); (case k4 => ktr_units)))
  k_with "compareOp NotEq" => (k_here; (with_reducible show wpAny _ _ (compareOp CmpOp.NotEq _ _) _ _ _); k_dflt (refine' my_ne ?k1 ?k2 ?k3 ?k4 ?_; (case k1 => k_asm); (case k2 => walk_at "my pin"); (case k3 => walk_at "my pin"); (case k4 => ktr_units)))
  k_with "binaryOp Add ref ref" => (k_here; (with_reducible show wpAny _ _ (binaryOp _ (Value.ref _) (Value.ref _)) _ _ _); k_dflt (refine' my_addP ?k1 ?k2 ?k3 ?k4 ?k7 ?k8 ?k5 ?k6 ?_; (case k1 => k_asm); (case k2 => k_asm); (case k3 => k_mem); (case k4 => k_mem); (case k7 => assumption); (case k8 => walk_at "my pall"); (case k5 => omega); (case k6 => omega)); intro _ _ _ _ _ _ _; (try k_sweep); (try dsimp only))
  k_with "subscriptTail Name Slice ref ref" => (k_here; (with_reducible show wpAny _ _ (subscriptTail _ (PySem.Expr.Slice none none (some _) _) (Value.ref _) (Value.ref _)) _ _ _); k_dflt (refine' my_rev ?k1 ?k2 ?k3 ?k4 ?k5 ?_ ?k8 ?k9; (case k1 => k_asm); (case k2 => k_asm); (case k3 => k_mem); (case k4 => exact IsPart.int _ _); (case k5 => omega); (case k8 => with_unfolding_all rfl); (case k9 => (intro _; with_unfolding_all rfl))); intro _ _ _ _ _; (try k_sweep); (try dsimp only))
  k_with "call ref" => (k_here; (with_reducible show wpAny _ _ (call (Value.ref 53) _) _ _ _); k_dflt (refine' turn_ok ?k1 ?k2 ?k3 ?k4 ?k5 ?k6 ?k7 ?k8 ?k9 ?k10 ?k11 ?k12 ?k13 ?k14 ?_; (case k1 => k_asm); (case k2 => k_asm); (case k3 => k_asm); (case k4 => k_asm); (case k5 => k_asm); (case k6 => first | exact rfl | assumption); (case k7 => ktr_room); (case k8 => ktr_units); (case k9 => walk_at "my pin"); (case k10 => walk_at "my pin"); (case k11 => walk_at "my pin"); (case k12 => walk_at "my bd"); (case k13 => walk_at "my bd"); (case k14 => walk_at "my bd")); intro _ _ _ _ _; (try dsimp only))
  k_with "my bd" => first | assumption | (refine bd_at ?_ ?_ ?_ <;> first | assumption | omega)
  k_with "call ref" => (k_here; (with_reducible show wpAny _ _ (call (Value.ref 60) _) _ _ _); k_dflt (refine' half_ok ?k1 ?k2 ?k3 ?k4 ?k5 ?k6 ?k7 ?k8 ?k9 ?k13 ?k10 ?k11 ?k12 ?_; (case k1 => k_asm); (case k2 => k_asm); (case k3 => k_asm); (case k4 => k_asm); (case k5 => k_asm); (case k6 => first | exact rfl | assumption); (case k7 => ktr_room); (case k8 => ktr_units); (case k9 => k_mem); (case k10 => first | assumption | exact PAll.reverse (by assumption)); (case k13 => walk_at "my sub"); (case k11 => walk_at "my bds"); (case k12 => walk_at "my len")); intro _ _ _ _ _ _ _ _ _; (try dsimp only))
  k_with "my bds" => assumption
  k_with "my len" => first | omega | (simp only [List.length_append, List.length_cons, List.length_nil, List.length_reverse, List.length_map] at *; omega)
  k_with "my law" => (dsimp only [lawBody, lawScope, fdBody, fdScope, nth, PySem.Challenge.pw_zz0003_01])
  k_with "my LS" => (refine' LS.of ?F9 ?N9 ?d1 ?d2 ?d3 ?d4 ?d5 ?d6 ?m6 ?m5 ?m4 ?m3 ?m2 ?m1 ?hs ?off; (case F9 => assumption); (case N9 => assumption); (case m6 => k_mem); (case m5 => k_mem); (case m4 => k_mem); (case m3 => k_mem); (case m2 => k_mem); (case m1 => k_mem); (case d1 => assumption); (case d2 => assumption); (case d3 => assumption); (case d4 => assumption); (case d5 => assumption); (case d6 => assumption); (case hs => walk_at "my sub"); (case off => walk_at "my off"))
  k_with "my off" => first | assumption | (refine off_add ?_ (by omega); walk_at "my off")
  k_with "subscriptTail Name Slice ref ref" => (k_here; (with_reducible show wpAny _ _ (subscriptTail _ (PySem.Expr.Slice (some _) none none _) (Value.ref _) (Value.ref _)) _ _ _); k_dflt (refine' my_from (j := 2) ?k1 ?k2 ?k3 ?k4 ?k5 ?k6 ?_ ?k8 ?k9; (case k1 => k_asm); (case k2 => k_asm); (case k3 => k_mem); (case k4 => exact IsPart.int _ _); (case k5 => exact IsPart.none); (case k6 => walk_at "my len"); (case k8 => with_unfolding_all rfl); (case k9 => (intro _; with_unfolding_all rfl))); intro _ _ _ _ _; (try k_sweep); (try dsimp only))
  trivial
theorem seg8 {lp lr nr : Nat} {ws : List Value} {rs : List Pt}
    (B : Below callerA h₀ [] h₀) (X : (hd.heap_39 w.params).In h₀) (T : Top hd.view_39 loose mean mg mb h₀)
    (H : LS h₀ L m (some (.ref lp)) v2 (some (.ref lr)) v4 v5 v6 dat s.heap)
    (hl2 : (lr, listOf ws.toArray nr) ∈ dat) (R2 : PAll dat ws rs) (bd2 : ∀ p ∈ rs, Bd p) (hz2 : rs.length ≤ 6) (h3 : 3 ≤ rs.length)
    (hret : ∀ a o h' tk', PIn [(a, o)] (.ref a) ((atI rs 0).1 + (atI rs 1).1, (atI rs 0).2 + (atI rs 1).2) → LS h₀ L (fun z => if z = Str.ofString "middle" then some (.ref a) else m z) (some (.ref lp)) v2 (some (.ref lr)) v4 v5 v6 ((a, o) :: dat) h' → Q .next { s with heap := h', toks := tk' }) :
    wpAny (model PySem.Challenge.rw_zz0003_01.row.prog w) (callerA.deeper (lawEnv L f cd)) (exec (nth lawBody 8) (lawEnv L f cd)) Q E s := by
  revert X; k_fill; intro X
  walk_at "my law"
  have hvl2 := R2.length
  obtain ⟨F, ⟨o1, o2, o3, o4, o5, o6, d1, d2, d3, d4, d5, d6, N⟩, off⟩ := H
  k_steps
  rename_i D9 h9 l9 h10 F9 N9
  refine hret D9 _ _ _ ⟨_, 0, s.toks + 1 + 1 + 1 + 1, s.toks + 1 + 1 + 1 + 1 + 1 + 1 + 1 + 1 + 1, rfl, .head _⟩ ?_
  walk_at "my LS"
end
/- L9 -/
section
theorem reset_L9 {prog : Program} {w : World} {A : Around} {env : Env} {Q : Flow → Shared → Prop} {E : Value → Shared → Prop} {s : Shared} (h : Q .next s) : wpAny (model prog w) A (execs [] env) Q E s := by
  k_with_none
  w_top off
  walk1
  exact h
variable {w : World} {loose : List Str} {mean : ExcName → Option Value} {mg mb : Str → Option Value} {h₀ : Heap} {L f : Addr} {cd : Value} {m : Str → Option Value} {dat : List (Addr × Obj)} {s : Shared}
  {Q : Flow → Shared → Prop} {E : Value → Shared → Prop} {v1 v2 v3 v4 v5 v6 : Option Value}
theorem lines_L9_1 : True := by
  k_with "my sub" => (intro q9 hq9; first | exact hq9 | exact .tail _ hq9 | (rcases List.mem_cons.mp hq9 with rfl | hq9 <;> k_mem) | k_mem | exact .tail _ (.tail _ hq9) | exact .tail _ (.tail _ (.tail _ hq9)) | exact .tail _ (.tail _ (.tail _ (.tail _ hq9))) | (simp only [List.mem_append, List.mem_cons] at hq9 ⊢; grind))
  k_with "my pall" => first | assumption | exact PAll.mono (by assumption) (by walk_at "my sub")
  k_with "my pin" => first | assumption | exact PIn.mono (by assumption) (by walk_at "my sub")
  k_with "call builtin:len" => (k_here; (with_reducible show wpAny _ _ (call (Value.builtin "len") [Value.ref _]) _ _ _); k_dflt (refine' my_lenP ?k1 ?k2 ?k3 ?k4 ?_; (case k1 => k_asm); (case k2 => k_mem); (case k3 => assumption); (case k4 => omega)); intro _ _; (try dsimp only))
  k_with "my item" => (k_here; (with_reducible show wpAny _ _ (subscriptTail _ _ (Value.ref _) (Value.int _ _)) _ _ _); k_dflt (refine' my_itemA ?k1 ?k2 ?k3 ?k4 ?k5 ?k6 ?_ ?k8 ?k9; (case k1 => k_asm); (case k2 => k_mem); (case k3 => assumption); (case k4 => omega); (case k5 => omega); (case k6 => omega); (case k8 => with_unfolding_all rfl); (case k9 => (intro _; with_unfolding_all rfl))); intro _ _)
  k_with "compareOp Lt" => (k_here; (with_reducible show wpAny _ _ (compareOp CmpOp.Lt _ _) _ _ _); k_dflt (refine' my_lt ?k1 ?k2 ?k3 ?k4 ?_; (case k1 => k_asm); (case k2 => walk_at "my pin"); (case k3 => walk_at "my pin"); (case k4 => ktr_units)))
  k_with "compareOp NotEq" => (k_here; (with_reducible show wpAny _ _ (compareOp CmpOp.NotEq _ _) _ _ _); k_dflt (refine' my_ne ?k1 ?k2 ?k3 ?k4 ?_; (case k1 => k_asm); (case k2 => walk_at "my pin"); (case k3 => walk_at "my pin"); (case k4 => ktr_units)))
  k_with "binaryOp Add ref ref" => (k_here; (with_reducible show wpAny _ _ (binaryOp _ (Value.ref _) (Value.ref _)) _ _ _); k_dflt (refine' my_addP ?k1 ?k2 ?k3 ?k4 ?k7 ?k8 ?k5 ?k6 ?_; (case k1 => k_asm); (case k2 => k_asm); (case k3 => k_mem); (case k4 => k_mem); (case k7 => assumption); (case k8 => walk_at "my pall"); (case k5 => omega); (case k6 => omega)); intro _ _ _ _ _ _ _; (try k_sweep); (try dsimp only))
  k_with "subscriptTail Name Slice ref ref" => (k_here; (with_reducible show wpAny _ _ (subscriptTail _ (PySem.Expr.Slice none none (some _) _) (Value.ref _) (Value.ref _)) _ _ _); k_dflt (refine' my_rev ?k1 ?k2 ?k3 ?k4 ?k5 ?_ ?k8 ?k9; (case k1 => k_asm); (case k2 => k_asm); (case k3 => k_mem); (case k4 => exact IsPart.int _ _); (case k5 => omega); (case k8 => with_unfolding_all rfl); (case k9 => (intro _; with_unfolding_all rfl))); intro _ _ _ _ _; (try k_sweep); (try dsimp only))
  k_with "call ref" => (k_here; (with_reducible show wpAny _ _ (call (Value.ref 53) _) _ _ _); k_dflt (refine' turn_ok ?k1 ?k2 ?k3 ?k4 ?k5 ?k6 ?k7 ?k8 ?k9 ?k10 ?k11 ?k12 ?k13 ?k14 ?_; (case k1 => k_asm); (case k2 => k_asm); (case k3 => k_asm); (case k4 => k_asm); (case k5 => k_asm); (case k6 => first | exact rfl | assumption); (case k7 => ktr_room); (case k8 => ktr_units); (case k9 => walk_at "my pin"); (case k10 => walk_at "my pin"); (case k11 => walk_at "my pin"); (case k12 => walk_at "my bd"); (case k13 => walk_at "my bd"); (case k14 => walk_at "my bd")); intro _ _ _ _ _; (try dsimp only))
  k_with "my bd" => first | assumption | (refine bd_at ?_ ?_ ?_ <;> first | assumption | omega)
  k_with "call ref" => (k_here; (with_reducible show wpAny _ _ (call (Value.ref 60) _) _ _ _); k_dflt (refine' half_ok ?k1 ?k2 ?k3 ?k4 ?k5 ?k6 ?k7 ?k8 ?k9 ?k13 ?k10 ?k11 ?k12 ?_; (case k1 => k_asm); (case k2 => k_asm); (case k3 => k_asm); (case k4 => k_asm); (case k5 => k_asm); (case k6 => first | exact rfl | assumption); (case k7 => ktr_room); (case k8 => ktr_units); (case k9 => k_mem); (case k10 => first | assumption | exact PAll.reverse (by assumption)); (case k13 => walk_at "my sub"); (case k11 => walk_at "my bds"); (case k12 => walk_at "my len")); intro _ _ _ _ _ _ _ _ _; (try dsimp only))
  k_with "my bds" => assumption
  k_with "my len" => first | omega | (simp only [List.length_append, List.length_cons, List.length_nil, List.length_reverse, List.length_map] at *; omega)
  k_with "my law" => (dsimp only [lawBody, lawScope, fdBody, fdScope, nth, PySem.Challenge.pw_zz0003_01])
  k_with "my LS" => (refine' LS.of ?F9 ?N9 ?d1 ?d2 ?d3 ?d4 ?d5 ?d6 ?m6 ?m5 ?m4 ?m3 ?m2 ?m1 ?hs ?off; (case F9 => assumption); (case N9 => assumption); (case m6 => k_mem); (case m5 => k_mem); (case m4 => k_mem); (case m3 => k_mem); (case m2 => k_mem); (case m1 => k_mem); (case d1 => assumption); (case d2 => assumption); (case d3 => assumption); (case d4 => assumption); (case d5 => assumption); (case d6 => assumption); (case hs => walk_at "my sub"); (case off => walk_at "my off"))
  k_with "my off" => first | assumption | (refine off_add ?_ (by omega); walk_at "my off")
  k_with "subscriptTail Name Slice ref ref" => (k_here; (with_reducible show wpAny _ _ (subscriptTail _ (PySem.Expr.Slice (some _) none none _) (Value.ref _) (Value.ref _)) _ _ _); k_dflt (refine' my_from (j := 2) ?k1 ?k2 ?k3 ?k4 ?k5 ?k6 ?_ ?k8 ?k9; (case k1 => k_asm); (case k2 => k_asm); (case k3 => k_mem); (case k4 => exact IsPart.int _ _); (case k5 => exact IsPart.none); (case k6 => walk_at "my len"); (case k8 => with_unfolding_all rfl); (case k9 => (intro _; with_unfolding_all rfl))); intro _ _ _ _ _; (try k_sweep); (try dsimp only))
  trivial
def dbl (p : Pt) : Pt := (2 * p.1, 2 * p.2)
open PyProof.Rows.LCg (lst) in
theorem seg9 {lp np : Nat} {vs : List Value} {ps : List Pt}
    (B : Below callerA h₀ [] h₀) (X : (hd.heap_39 w.params).In h₀) (T : Top hd.view_39 loose mean mg mb h₀)
    (H : LS h₀ L m (some (.ref lp)) v2 v3 v4 v5 v6 dat s.heap)
    (hl : (lp, listOf vs.toArray np) ∈ dat) (R : PAll dat vs ps) (bd : ∀ p ∈ ps, Bd p) (hz : ps.length ≤ 6)
    (hret : ∀ D c ws nw h' tk', PAll nw ws (ps.map dbl) → LS h₀ L (fun z => if z = Str.ofString "twice" then some (.ref D) else m z) (some (.ref lp)) v2 v3 v4 v5 v6 ((D, listOf ws.toArray c) :: (nw ++ dat)) h' → Q .next { s with heap := h', toks := tk' }) :
    wpAny (model PySem.Challenge.rw_zz0003_01.row.prog w) (callerA.deeper (lawEnv L f cd)) (exec (nth lawBody 9) (lawEnv L f cd)) Q E s := by
  revert X; k_fill; intro X
  walk_at "my law"
  have hvl := R.length
  obtain ⟨F, ⟨o1, o2, o3, o4, o5, o6, d1, d2, d3, d4, d5, d6, N⟩, off⟩ := H
  k_steps
  refine Stop.go ?_
  refine comp_assign (h₀ := h₀) (L := L) rfl (by with_unfolding_all rfl) (by intro _; with_unfolding_all rfl) (by with_unfolding_all rfl) (by decide) (by rfl) (by decide) (by rfl) (by rfl) ?_
  k_steps
  refine Stop.go ?_
  have hlt6 : @LT.lt Nat _ (L + 1 + 1 + 1 + 1 + 1 + 1) s.heap.objs.size := Heap.lt_size (N _ (.head _)).1
  refine top_list (vs := vs) (k := np) rfl F N (by k_mem) ?_
  intro I C D h2 h3 tk3 V st c hI hCI hDI hCa hDa hDs
  refine level_pair rfl (by rfl) (by rfl) (by rfl) (by rfl) (by rfl) V hCI hDI hCa hDa (fun i _ ys nx => ∃ nw, nx = nw ++ ((L + 1 + 1 + 1 + 1 + 1 + 1, o6) :: (L + 1 + 1 + 1 + 1 + 1, o5) :: (L + 1 + 1 + 1 + 1, o4) :: (L + 1 + 1 + 1, o3) :: (L + 1 + 1, o2) :: (L + 1, o1) :: dat) ∧ (∀ q ∈ nw, @LT.lt Nat _ (L + 1 + 1 + 1 + 1 + 1 + 1) q.1) ∧ PAll nw ys ((ps.take i).map dbl)) ?hS st c hI ⟨[], rfl, fun q hq => (nomatch hq), .nil⟩ ?two ?turn ?done
  case hS =>
    rintro i m₂ ys led ⟨nw, rfl, _, hy⟩
    refine ⟨.inr ⟨listOf vs.toArray np, by k_mem, rfl, _, rfl⟩, ?_⟩
    have := hy.length
    rw [List.length_map, List.length_take] at this
    omega
  case two =>
    rintro i m₂ ys led v ⟨nw, rfl, _, hy⟩ hv
    obtain ⟨a, n, t, u, e, h⟩ := (R.val (by simpa using (List.getElem?_eq_some_iff.mp (by simpa using hv)).1) hv).2
    exact ⟨a, n, _, _, e, by k_mem⟩
  case turn =>
    rintro i a n w₁ w₂ m₂ ys led h4 tk4 oI E' hi hv hm ⟨nw, rfl, hnw, hy⟩ hoff ⟨F4, oC, hC, N4, off4, ne4⟩
    obtain ⟨hi', hP⟩ := R.val hi hv
    obtain ⟨a', n', t', u', e', h'⟩ := hP
    cases e'
    have e2 := (N4 _ (.tail _ (.tail _ (.tail _ hm)))).1.symm.trans (N4 _ (.tail _ (.tail _ (.tail _ (List.mem_append_right _ (.tail _ (.tail _ (.tail _ (.tail _ (.tail _ (.tail _ h'))))))))))).1
    simp only [Option.some.injEq, Obj.mk.injEq, Data.seq.injEq, Array.mk.injEq, List.cons.injEq, and_true, true_and] at e2
    obtain ⟨⟨e3, e4⟩, e5⟩ := e2
    subst e3 e4 e5
    have hx : (fun z => if z = Str.ofString "y" then some (Value.int (ps[i]).2 u') else if z = Str.ofString "x" then some (Value.int (ps[i]).1 t') else m₂ z) (Str.ofString "x") = some (Value.int (ps[i]).1 t') := rfl
    have hy' : (fun z => if z = Str.ofString "y" then some (Value.int (ps[i]).2 u') else if z = Str.ofString "x" then some (Value.int (ps[i]).1 t') else m₂ z) (Str.ofString "y") = some (Value.int (ps[i]).2 u') := rfl
    have b1 : Bd ps[i] := bd _ (List.getElem_mem hi')
    obtain ⟨b2, b3, b4, b5⟩ := b1
    clear V st c hI
    refine tests_nil ?_
    k_steps
    rename (_ ∧ _ ∧ _ ∧ AllLt _ _) => l2
    rename_i D9 h9 F9 N9
    have l3 := ktn_ltOf l2.2.2.2
    refine CEnd.add1 F9 N9 hC (Nat.ne_of_lt l2.1) (Nat.ne_of_lt l2.2.1) (Nat.ne_of_lt l2.2.2.1) off4 hoff ne4 ⟨⟨_ :: nw, rfl, fun q hq => ?_, ?_⟩, .inr ⟨listOf vs.toArray np, .tail _ (by k_mem), rfl, _, rfl⟩, ?_⟩
    · rcases List.mem_cons.mp hq with rfl | hq
      · exact l3 _ (List.mem_append_right _ (.head _))
      · exact hnw _ hq
    · rw [take_succ_at hi', List.map_append]
      exact (hy.mono fun q hq => .tail _ hq).append (.one ⟨_, _, _, _, rfl, .head _⟩)
    · have := hy.length
      rw [List.length_map, List.length_take] at this
      omega
  case done =>
    rintro m₂ ys led h4 tk4 ⟨nw, rfl, hnw, hy⟩ c4 hoff
    refine ⟨_, _, _, _, _, rfl, c4, ?_⟩
    intro h5 tk5 F5 N5 hD5
    have e1 : ps.take vs.toArray.size = ps := by
      rw [List.size_toArray, R.length, List.take_length]
    rw [e1] at hy
    have hD6 : @LT.lt Nat _ (L + 1 + 1 + 1 + 1 + 1 + 1) D := Nat.lt_of_lt_of_le hlt6 hDs
    refine hret D ys.length ys nw _ _ hy (LS.of (dat := (D, lst ys) :: (nw ++ dat)) F5 N5 d1 d2 d3 d4 d5 d6 (by k_mem) (by k_mem) (by k_mem) (by k_mem) (by k_mem) (by k_mem) ?_ ?_)
    · intro q hq
      simp only [List.mem_cons, List.mem_append] at hq ⊢
      grind
    · intro q hq
      rcases List.mem_cons.mp hq with rfl | hq
      · exact hD6
      · rcases List.mem_append.mp hq with hq | hq
        · exact hnw q hq
        · exact off q hq
end
/- L10 -/
section
theorem reset_L10 {prog : Program} {w : World} {A : Around} {env : Env} {Q : Flow → Shared → Prop} {E : Value → Shared → Prop} {s : Shared} (h : Q .next s) : wpAny (model prog w) A (execs [] env) Q E s := by
  k_with_none
  w_top off
  walk1
  exact h
variable {w : World} {loose : List Str} {mean : ExcName → Option Value} {mg mb : Str → Option Value} {h₀ : Heap} {L f : Addr} {cd : Value} {m : Str → Option Value} {dat : List (Addr × Obj)} {s : Shared}
  {Q : Flow → Shared → Prop} {E : Value → Shared → Prop} {v1 v2 v3 v4 v5 v6 : Option Value}
local macro_rules | `(tactic| walk_at "binaryOp Add ref ref") => `(tactic| (k_here; refine Stop.of ?_))
theorem lines_L10_1 : True := by
  k_with "my sub" => (intro q9 hq9; first | exact hq9 | exact .tail _ hq9 | (rcases List.mem_cons.mp hq9 with rfl | hq9 <;> k_mem) | k_mem | exact .tail _ (.tail _ hq9) | exact .tail _ (.tail _ (.tail _ hq9)) | exact .tail _ (.tail _ (.tail _ (.tail _ hq9))) | (simp only [List.mem_append, List.mem_cons] at hq9 ⊢; grind))
  k_with "my pall" => first | assumption | exact PAll.mono (by assumption) (by walk_at "my sub")
  k_with "my pin" => first | assumption | exact PIn.mono (by assumption) (by walk_at "my sub")
  k_with "call builtin:len" => (k_here; (with_reducible show wpAny _ _ (call (Value.builtin "len") [Value.ref _]) _ _ _); k_dflt (refine' my_lenP ?k1 ?k2 ?k3 ?k4 ?_; (case k1 => k_asm); (case k2 => k_mem); (case k3 => assumption); (case k4 => omega)); intro _ _; (try dsimp only))
  k_with "my item" => (k_here; (with_reducible show wpAny _ _ (subscriptTail _ _ (Value.ref _) (Value.int _ _)) _ _ _); k_dflt (refine' my_itemA ?k1 ?k2 ?k3 ?k4 ?k5 ?k6 ?_ ?k8 ?k9; (case k1 => k_asm); (case k2 => k_mem); (case k3 => assumption); (case k4 => omega); (case k5 => omega); (case k6 => omega); (case k8 => with_unfolding_all rfl); (case k9 => (intro _; with_unfolding_all rfl))); intro _ _)
  k_with "compareOp Lt" => (k_here; (with_reducible show wpAny _ _ (compareOp CmpOp.Lt _ _) _ _ _); k_dflt (refine' my_lt ?k1 ?k2 ?k3 ?k4 ?_; (case k1 => k_asm); (case k2 => walk_at "my pin"); (case k3 => walk_at "my pin"); (case k4 => ktr_units)))
  k_with "compareOp NotEq" => (k_here; (with_reducible show wpAny _ _ (compareOp CmpOp.NotEq _ _) _ _ _); k_dflt (refine' my_ne ?k1 ?k2 ?k3 ?k4 ?_; (case k1 => k_asm); (case k2 => walk_at "my pin"); (case k3 => walk_at "my pin"); (case k4 => ktr_units)))
  k_with "binaryOp Add ref ref" => (k_here; (with_reducible show wpAny _ _ (binaryOp _ (Value.ref _) (Value.ref _)) _ _ _); k_dflt (refine' my_addP ?k1 ?k2 ?k3 ?k4 ?k7 ?k8 ?k5 ?k6 ?_; (case k1 => k_asm); (case k2 => k_asm); (case k3 => k_mem); (case k4 => k_mem); (case k7 => assumption); (case k8 => walk_at "my pall"); (case k5 => omega); (case k6 => omega)); intro _ _ _ _ _ _ _; (try k_sweep); (try dsimp only))
  k_with "subscriptTail Name Slice ref ref" => (k_here; (with_reducible show wpAny _ _ (subscriptTail _ (PySem.Expr.Slice none none (some _) _) (Value.ref _) (Value.ref _)) _ _ _); k_dflt (refine' my_rev ?k1 ?k2 ?k3 ?k4 ?k5 ?_ ?k8 ?k9; (case k1 => k_asm); (case k2 => k_asm); (case k3 => k_mem); (case k4 => exact IsPart.int _ _); (case k5 => omega); (case k8 => with_unfolding_all rfl); (case k9 => (intro _; with_unfolding_all rfl))); intro _ _ _ _ _; (try k_sweep); (try dsimp only))
  k_with "call ref" => (k_here; (with_reducible show wpAny _ _ (call (Value.ref 53) _) _ _ _); k_dflt (refine' turn_ok ?k1 ?k2 ?k3 ?k4 ?k5 ?k6 ?k7 ?k8 ?k9 ?k10 ?k11 ?k12 ?k13 ?k14 ?_; (case k1 => k_asm); (case k2 => k_asm); (case k3 => k_asm); (case k4 => k_asm); (case k5 => k_asm); (case k6 => first | exact rfl | assumption); (case k7 => ktr_room); (case k8 => ktr_units); (case k9 => walk_at "my pin"); (case k10 => walk_at "my pin"); (case k11 => walk_at "my pin"); (case k12 => walk_at "my bd"); (case k13 => walk_at "my bd"); (case k14 => walk_at "my bd")); intro _ _ _ _ _; (try dsimp only))
  k_with "my bd" => first | assumption | (refine bd_at ?_ ?_ ?_ <;> first | assumption | omega)
  k_with "call ref" => (k_here; (with_reducible show wpAny _ _ (call (Value.ref 60) _) _ _ _); k_dflt (refine' half_ok ?k1 ?k2 ?k3 ?k4 ?k5 ?k6 ?k7 ?k8 ?k9 ?k13 ?k10 ?k11 ?k12 ?_; (case k1 => k_asm); (case k2 => k_asm); (case k3 => k_asm); (case k4 => k_asm); (case k5 => k_asm); (case k6 => first | exact rfl | assumption); (case k7 => ktr_room); (case k8 => ktr_units); (case k9 => k_mem); (case k10 => first | assumption | exact PAll.reverse (by assumption)); (case k13 => walk_at "my sub"); (case k11 => walk_at "my bds"); (case k12 => walk_at "my len")); intro _ _ _ _ _ _ _ _ _; (try dsimp only))
  k_with "my bds" => assumption
  k_with "my len" => first | omega | (simp only [List.length_append, List.length_cons, List.length_nil, List.length_reverse, List.length_map] at *; omega)
  k_with "my law" => (dsimp only [lawBody, lawScope, fdBody, fdScope, nth, PySem.Challenge.pw_zz0003_01])
  k_with "my LS" => (refine' LS.of ?F9 ?N9 ?d1 ?d2 ?d3 ?d4 ?d5 ?d6 ?m6 ?m5 ?m4 ?m3 ?m2 ?m1 ?hs ?off; (case F9 => assumption); (case N9 => assumption); (case m6 => k_mem); (case m5 => k_mem); (case m4 => k_mem); (case m3 => k_mem); (case m2 => k_mem); (case m1 => k_mem); (case d1 => assumption); (case d2 => assumption); (case d3 => assumption); (case d4 => assumption); (case d5 => assumption); (case d6 => assumption); (case hs => walk_at "my sub"); (case off => walk_at "my off"))
  k_with "my off" => first | assumption | (refine off_add ?_ (by omega); walk_at "my off")
  k_with "subscriptTail Name Slice ref ref" => (k_here; (with_reducible show wpAny _ _ (subscriptTail _ (PySem.Expr.Slice (some _) none none _) (Value.ref _) (Value.ref _)) _ _ _); k_dflt (refine' my_from (j := 2) ?k1 ?k2 ?k3 ?k4 ?k5 ?k6 ?_ ?k8 ?k9; (case k1 => k_asm); (case k2 => k_asm); (case k3 => k_mem); (case k4 => exact IsPart.int _ _); (case k5 => exact IsPart.none); (case k6 => walk_at "my len"); (case k8 => with_unfolding_all rfl); (case k9 => (intro _; with_unfolding_all rfl))); intro _ _ _ _ _; (try k_sweep); (try dsimp only))
  k_with "compareOp NotEq ref ref" => (k_here; (with_reducible show wpAny _ _ (compareOp CmpOp.NotEq (Value.ref _) (Value.ref _)) _ _ _); k_dflt (refine' my_neL ?k1 ?k2 ?k3 ?k4 ?k5 ?k6 ?k7 ?k8 ?_; (case k1 => k_asm); (case k2 => k_mem); (case k3 => assumption); (case k4 => walk_at "my sub"); (case k5 => k_mem); (case k6 => assumption); (case k7 => walk_at "my sub"); (case k8 => ktr_units)))
  k_with "compareOp NotEq" => (k_here; (with_reducible show wpAny _ _ (compareOp CmpOp.NotEq (Value.ref _) (Value.ref _)) _ _ _); k_dflt (refine' my_neL ?k1 ?k2 ?k3 ?k4 ?k5 ?k6 ?k7 ?k8 ?_; (case k1 => k_asm); (case k2 => k_mem); (case k3 => assumption); (case k4 => walk_at "my sub"); (case k5 => k_mem); (case k6 => assumption); (case k7 => walk_at "my sub"); (case k8 => ktr_units)))
  k_with "compareOp NotIn" => (k_here; (with_reducible show wpAny _ _ (compareOp CmpOp.NotIn _ (Value.ref _)) _ _ _); k_dflt (refine' my_notIn ?k1 ?k2 ?k3 ?k4 ?k5 ?k6 ?k7 ?_; (case k1 => k_asm); (case k2 => k_mem); (case k3 => assumption); (case k4 => walk_at "my sub"); (case k5 => assumption); (case k6 => walk_at "my sub"); (case k7 => ktr_units)))
  trivial
theorem seg10 {a dt nt : Nat} {om : Obj} {mid : Pt} {vt : List Value} {ps : List Pt}
    (B : Below callerA h₀ [] h₀) (X : (hd.heap_39 w.params).In h₀) (T : Top hd.view_39 loose mean mg mb h₀)
    (H : LS h₀ L m v1 v2 v3 v4 v5 v6 dat s.heap)
    (hma : m (Str.ofString "middle") = some (.ref a)) (hmd : m (Str.ofString "twice") = some (.ref dt)) (hP : PIn dat (.ref a) mid) (bm : Bd mid)
    (hl : (dt, listOf vt.toArray nt) ∈ dat) (R : PAll dat vt ps) (bd : ∀ p ∈ ps, Bd p) (hz : ps.length ≤ 6) (hnd : ps.Nodup)
    (heq : ring (ps ++ if mid ∈ ps then [] else [mid]) = ring ps)
    (hret : ∀ m h' tk', LS h₀ L m v1 v2 v3 v4 v5 v6 dat h' → Q .next { s with heap := h', toks := tk' }) :
    wpAny (model PySem.Challenge.rw_zz0003_01.row.prog w) (callerA.deeper (lawEnv L f cd)) (exec (nth lawBody 10) (lawEnv L f cd)) Q E s := by
  revert X; k_fill; intro X
  walk_at "my law"
  have hvl := R.length
  obtain ⟨F, ⟨o1, o2, o3, o4, o5, o6, d1, d2, d3, d4, d5, d6, N⟩, off⟩ := H
  obtain ⟨m', F'⟩ := fr_known2 (k1 := Str.ofString "middle") (k2 := Str.ofString "twice") F hma hmd
  clear F hma hmd
  k_steps
  · refine Stop.go ?_
    rename (¬ mid ∈ ps) => hn
    rw [if_neg hn] at heq
    have RM : PAll dat [.ref a] [mid] := .one hP
    have hb1 : ∀ p ∈ ps ++ [mid], Bd p := by
      intro p hp
      rcases List.mem_append.mp hp with hp | hp
      · exact bd p hp
      · rw [List.mem_singleton.mp hp]; exact bm
    have hn1 : (ps ++ [mid]).Nodup := by
      rw [List.nodup_append]
      refine ⟨hnd, by simp, ?_⟩
      intro x hx y hy e
      rw [List.mem_singleton.mp hy] at e
      exact hn (e ▸ hx)
    refine my_addP (by k_asm) (by k_asm) (by k_mem) (by k_mem) R RM (by omega) (by simp) ?_
    intro D2 us2 h2 F2 N2 l2 R2
    k_steps
    · exact absurd heq (by assumption)
    · exact hret _ _ _ (by walk_at "my LS")
  · refine Stop.go ?_
    rename (¬ ¬ mid ∈ ps) => hn
    rw [if_pos (Decidable.not_not.mp hn)] at heq
    have RM : PAll dat [] [] := .nil
    refine my_addP (by k_asm) (by k_asm) (by k_mem) (by k_mem) R RM (by omega) (by simp) ?_
    rw [List.append_nil] at heq ⊢
    intro D2 us2 h2 F2 N2 l2 R2
    k_steps
    · exact absurd rfl (by assumption)
    · exact hret _ _ _ (by walk_at "my LS")
end
/- L12 -/
section
theorem reset_L12 {prog : Program} {w : World} {A : Around} {env : Env} {Q : Flow → Shared → Prop} {E : Value → Shared → Prop} {s : Shared} (h : Q .next s) : wpAny (model prog w) A (execs [] env) Q E s := by
  k_with_none
  w_top off
  walk1
  exact h
variable {w : World} {loose : List Str} {mean : ExcName → Option Value} {mg mb : Str → Option Value} {h₀ : Heap} {L f : Addr} {cd : Value} {m : Str → Option Value} {dat : List (Addr × Obj)} {s : Shared}
  {Q : Flow → Shared → Prop} {E : Value → Shared → Prop} {v1 v2 v3 v4 v5 v6 : Option Value}
theorem lines_L12_1 : True := by
  k_with "my sub" => (intro q9 hq9; first | exact hq9 | exact .tail _ hq9 | (rcases List.mem_cons.mp hq9 with rfl | hq9 <;> k_mem) | k_mem | exact .tail _ (.tail _ hq9) | exact .tail _ (.tail _ (.tail _ hq9)) | exact .tail _ (.tail _ (.tail _ (.tail _ hq9))) | (simp only [List.mem_append, List.mem_cons] at hq9 ⊢; grind))
  k_with "my pall" => first | assumption | exact PAll.mono (by assumption) (by walk_at "my sub")
  k_with "my pin" => first | assumption | exact PIn.mono (by assumption) (by walk_at "my sub")
  k_with "call builtin:len" => (k_here; (with_reducible show wpAny _ _ (call (Value.builtin "len") [Value.ref _]) _ _ _); k_dflt (refine' my_lenP ?k1 ?k2 ?k3 ?k4 ?_; (case k1 => k_asm); (case k2 => k_mem); (case k3 => assumption); (case k4 => omega)); intro _ _; (try dsimp only))
  k_with "my item" => (k_here; (with_reducible show wpAny _ _ (subscriptTail _ _ (Value.ref _) (Value.int _ _)) _ _ _); k_dflt (refine' my_itemA ?k1 ?k2 ?k3 ?k4 ?k5 ?k6 ?_ ?k8 ?k9; (case k1 => k_asm); (case k2 => k_mem); (case k3 => assumption); (case k4 => omega); (case k5 => omega); (case k6 => omega); (case k8 => with_unfolding_all rfl); (case k9 => (intro _; with_unfolding_all rfl))); intro _ _)
  k_with "compareOp Lt" => (k_here; (with_reducible show wpAny _ _ (compareOp CmpOp.Lt _ _) _ _ _); k_dflt (refine' my_lt ?k1 ?k2 ?k3 ?k4 ?_; (case k1 => k_asm); (case k2 => walk_at "my pin"); (case k3 => walk_at "my pin"); (case k4 => ktr_units)))
  k_with "compareOp NotEq" => (k_here; (with_reducible show wpAny _ _ (compareOp CmpOp.NotEq _ _) _ _ _); k_dflt (refine' my_ne ?k1 ?k2 ?k3 ?k4 ?_; (case k1 => k_asm); (case k2 => walk_at "my pin"); (case k3 => walk_at "my pin"); (case k4 => ktr_units)))
  k_with "binaryOp Add ref ref" => (k_here; (with_reducible show wpAny _ _ (binaryOp _ (Value.ref _) (Value.ref _)) _ _ _); k_dflt (refine' my_addP ?k1 ?k2 ?k3 ?k4 ?k7 ?k8 ?k5 ?k6 ?_; (case k1 => k_asm); (case k2 => k_asm); (case k3 => k_mem); (case k4 => k_mem); (case k7 => assumption); (case k8 => walk_at "my pall"); (case k5 => omega); (case k6 => omega)); intro _ _ _ _ _ _ _; (try k_sweep); (try dsimp only))
  k_with "subscriptTail Name Slice ref ref" => (k_here; (with_reducible show wpAny _ _ (subscriptTail _ (PySem.Expr.Slice none none (some _) _) (Value.ref _) (Value.ref _)) _ _ _); k_dflt (refine' my_rev ?k1 ?k2 ?k3 ?k4 ?k5 ?_ ?k8 ?k9; (case k1 => k_asm); (case k2 => k_asm); (case k3 => k_mem); (case k4 => exact IsPart.int _ _); (case k5 => omega); (case k8 => with_unfolding_all rfl); (case k9 => (intro _; with_unfolding_all rfl))); intro _ _ _ _ _; (try k_sweep); (try dsimp only))
  k_with "call ref" => (k_here; (with_reducible show wpAny _ _ (call (Value.ref 53) _) _ _ _); k_dflt (refine' turn_ok ?k1 ?k2 ?k3 ?k4 ?k5 ?k6 ?k7 ?k8 ?k9 ?k10 ?k11 ?k12 ?k13 ?k14 ?_; (case k1 => k_asm); (case k2 => k_asm); (case k3 => k_asm); (case k4 => k_asm); (case k5 => k_asm); (case k6 => first | exact rfl | assumption); (case k7 => ktr_room); (case k8 => ktr_units); (case k9 => walk_at "my pin"); (case k10 => walk_at "my pin"); (case k11 => walk_at "my pin"); (case k12 => walk_at "my bd"); (case k13 => walk_at "my bd"); (case k14 => walk_at "my bd")); intro _ _ _ _ _; (try dsimp only))
  k_with "my bd" => first | assumption | (refine bd_at ?_ ?_ ?_ <;> first | assumption | omega)
  k_with "call ref" => (k_here; (with_reducible show wpAny _ _ (call (Value.ref 60) _) _ _ _); k_dflt (refine' half_ok ?k1 ?k2 ?k3 ?k4 ?k5 ?k6 ?k7 ?k8 ?k9 ?k13 ?k10 ?k11 ?k12 ?_; (case k1 => k_asm); (case k2 => k_asm); (case k3 => k_asm); (case k4 => k_asm); (case k5 => k_asm); (case k6 => first | exact rfl | assumption); (case k7 => ktr_room); (case k8 => ktr_units); (case k9 => k_mem); (case k10 => first | assumption | exact PAll.reverse (by assumption)); (case k13 => walk_at "my sub"); (case k11 => walk_at "my bds"); (case k12 => walk_at "my len")); intro _ _ _ _ _ _ _ _ _; (try dsimp only))
  k_with "my bds" => assumption
  k_with "my len" => first | omega | (simp only [List.length_append, List.length_cons, List.length_nil, List.length_reverse, List.length_map] at *; omega)
  k_with "my law" => (dsimp only [lawBody, lawScope, fdBody, fdScope, nth, PySem.Challenge.pw_zz0003_01])
  k_with "my LS" => (refine' LS.of ?F9 ?N9 ?d1 ?d2 ?d3 ?d4 ?d5 ?d6 ?m6 ?m5 ?m4 ?m3 ?m2 ?m1 ?hs ?off; (case F9 => assumption); (case N9 => assumption); (case m6 => k_mem); (case m5 => k_mem); (case m4 => k_mem); (case m3 => k_mem); (case m2 => k_mem); (case m1 => k_mem); (case d1 => assumption); (case d2 => assumption); (case d3 => assumption); (case d4 => assumption); (case d5 => assumption); (case d6 => assumption); (case hs => walk_at "my sub"); (case off => walk_at "my off"))
  k_with "my off" => first | assumption | (refine off_add ?_ (by omega); walk_at "my off")
  k_with "subscriptTail Name Slice ref ref" => (k_here; (with_reducible show wpAny _ _ (subscriptTail _ (PySem.Expr.Slice (some _) none none _) (Value.ref _) (Value.ref _)) _ _ _); k_dflt (refine' my_from (j := 2) ?k1 ?k2 ?k3 ?k4 ?k5 ?k6 ?_ ?k8 ?k9; (case k1 => k_asm); (case k2 => k_asm); (case k3 => k_mem); (case k4 => exact IsPart.int _ _); (case k5 => exact IsPart.none); (case k6 => walk_at "my len"); (case k8 => with_unfolding_all rfl); (case k9 => (intro _; with_unfolding_all rfl))); intro _ _ _ _ _; (try k_sweep); (try dsimp only))
  trivial
def ab (n : Int) : Int := if n < 0 then -n else n
def tri (rs : List Pt) (a b c : Nat) : Int := ab (turn (atI rs (a : Int)) (atI rs (b : Int)) (atI rs (c : Int)))
def three1 (rs : List Pt) (a b k : Nat) : List Int := (List.range k).map fun c => tri rs a b c
def three2 (rs : List Pt) (a k : Nat) : List Int := (List.range k).flatMap fun b => three1 rs a b b
def three3 (rs : List Pt) (k : Nat) : List Int := (List.range k).flatMap fun a => three2 rs a a
theorem three1_succ (rs : List Pt) (a b k : Nat) : three1 rs a b (k + 1) = three1 rs a b k ++ [tri rs a b k] := by
  rw [three1, List.range_succ, List.map_append]; rfl
theorem three2_succ (rs : List Pt) (a k : Nat) : three2 rs a (k + 1) = three2 rs a k ++ three1 rs a k k := by
  rw [three2, List.range_succ, List.flatMap_append]; simp [three2]
theorem three3_succ (rs : List Pt) (k : Nat) : three3 rs (k + 1) = three3 rs k ++ three2 rs k k := by
  rw [three3, List.range_succ, List.flatMap_append]; simp [three3]
theorem three1_len (rs : List Pt) (a b k : Nat) : (three1 rs a b k).length = k := by simp [three1]
theorem three2_len (rs : List Pt) (a k : Nat) : (three2 rs a k).length ≤ k * k := by
  induction k with
  | zero => simp [three2]
  | succ k ih => rw [three2_succ, List.length_append, three1_len]; grind
theorem three3_len (rs : List Pt) (k : Nat) : (three3 rs k).length ≤ k * (k * k) := by
  induction k with
  | zero => simp [three3]
  | succ k ih => rw [three3_succ, List.length_append]; have := three2_len rs k k; grind
theorem seg12 {lr nr : Nat} {ws : List Value} {rs : List Pt}
    (B : Below callerA h₀ [] h₀) (X : (hd.heap_39 w.params).In h₀) (T : Top hd.view_39 loose mean mg mb h₀)
    (H : LS h₀ L m v1 v2 (some (.ref lr)) v4 v5 v6 dat s.heap)
    (hl2 : (lr, listOf ws.toArray nr) ∈ dat) (R2 : PAll dat ws rs) (bd2 : ∀ p ∈ rs, Bd p) (hz2 : rs.length ≤ 6)
    (hret : ∀ D c ys h' tk', IntsAre ys (three3 rs rs.length) → LS h₀ L (fun z => if z = Str.ofString "three" then some (.ref D) else m z) v1 v2 (some (.ref lr)) v4 v5 v6 ((D, listOf ys.toArray c) :: dat) h' → Q .next { s with heap := h', toks := tk' }) :
    wpAny (model PySem.Challenge.rw_zz0003_01.row.prog w) (callerA.deeper (lawEnv L f cd)) (exec (nth lawBody 12) (lawEnv L f cd)) Q E s := by
  revert X; k_fill; intro X
  walk_at "my law"
  have hvl := R2.length
  obtain ⟨F, ⟨o1, o2, o3, o4, o5, o6, d1, d2, d3, d4, d5, d6, N⟩, off⟩ := H
  k_steps
  refine Stop.go ?_
  refine comp_assign (h₀ := h₀) (L := L) rfl (by with_unfolding_all rfl) (by intro _; with_unfolding_all rfl) (by with_unfolding_all rfl) (by decide) (by rfl) (by decide) (by rfl) (by rfl) ?_
  k_steps
  refine Stop.go ?_
  rename IsRange _ _ _ _ _ _ _ _ => hR
  rename Fr _ _ _ _ => F1
  rename News _ _ _ _ => N1
  refine top_range (b := rs.length) rfl F1 N1 hR (by omega) ?_
  intro I C D h2 h3 tk3 V st c hI hCI hDI hCa hDa hDs
  have hlt6 : @LT.lt Nat _ (L + 1 + 1 + 1 + 1 + 1 + 1) D := Nat.lt_of_lt_of_le (Heap.lt_size (N1 _ (.head _)).1) hDs
  refine level_next (by rfl) (by rfl) (by intro _; with_unfolding_all rfl) (by rfl) (by rfl) V hCI hDI hCa (Jfix _ fun i ys => IntsAre ys (three3 rs i) ∧ i ≤ rs.length) (fun _ _ _ _ _ => trivial) st c hI ⟨rfl, .nil, Nat.zero_le _⟩ ?turn ?done
  case turn =>
    rintro i v m₂ ys led h4 tk4 oI E' hi ⟨ta, rfl⟩ ⟨rfl, hy, _⟩ hoff ⟨F4, oC, hC, N4, off4, ne4⟩
    have e1 : (0 : Int) + (i : Int) = (i : Int) := by omega
    rw [e1] at hC
    have hxa : (fun y => if y = Str.ofString "a" then some (Value.int (i : Int) ta) else m₂ y) (Str.ofString "a") = some (Value.int (i : Int) ta) := if_pos rfl
    clear F1 N1 V st c hR hI
    refine tests_nil ?_
    rw [if_pos rfl]
    k_steps
    refine Stop.go ?_
    rename IsRange _ _ _ _ _ _ _ _ => hR2
    rename Fr _ _ _ _ => F5
    rename News _ _ _ _ => N5
    refine in_range (C := C) (D := D) (ys := ys) (led := (I, oI) :: _) (by rfl) rfl (CS.of F5 N5 hC (.head _) (.tail _ (.head _)) (fun q hq => .tail _ (.tail _ hq)) off4 ne4) hR2 (by omega) ?_
    clear F5 N5 hR2
    intro I2 h6 V2 st2 c2 hI2 hCI2 hDI2 hCa2 hDa2
    refine level_next (by rfl) (by rfl) (by intro _; with_unfolding_all rfl) (by rfl) (by rfl) V2 hCI2 hDI2 hCa2 (fun j m₂ ys nx => nx = (I, oI) :: _ ∧ IntsAre ys (three3 rs i ++ three2 rs i j) ∧ m₂ (Str.ofString "a") = some (.int (i : Int) ta) ∧ j ≤ i) (fun _ _ _ _ _ => trivial) st2 c2 hI2 ⟨rfl, by simpa [three2] using hy, hxa, Nat.zero_le _⟩ ?turn2 ?done2
    case turn2 =>
      clear hy hxa hC st2 c2
      rintro j v m₃ ys led h7 tk7 oI2 E2 hj ⟨tb, rfl⟩ ⟨rfl, hy, ha, _⟩ hoff2 ⟨F7, oC, hC, N7, off7, ne7⟩
      have e1 : (0 : Int) + (j : Int) = (j : Int) := by omega
      rw [e1] at hC
      have hxb : (fun y => if y = Str.ofString "b" then some (Value.int (j : Int) tb) else m₃ y) (Str.ofString "b") = some (Value.int (j : Int) tb) := if_pos rfl
      have hxa : (fun y => if y = Str.ofString "b" then some (Value.int (j : Int) tb) else m₃ y) (Str.ofString "a") = some (Value.int (i : Int) ta) := (if_neg (by decide)).trans ha
      clear V2 hI2
      refine tests_nil ?_
      rw [if_pos rfl]
      k_steps
      refine Stop.go ?_
      rename IsRange _ _ _ _ _ _ _ _ => hR2
      rename Fr _ _ _ _ => F5
      rename News _ _ _ _ => N5
      refine in_range (C := C) (D := D) (ys := ys) (led := (I2, oI2) :: _) (by rfl) rfl (CS.of F5 N5 hC (.head _) (.tail _ (.head _)) (fun q hq => .tail _ (.tail _ hq)) off7 ne7) hR2 (by omega) ?_
      clear F5 N5 hR2
      intro I3 h8 V3 st3 c3 hI3 hCI3 hDI3 hCa3 hDa3
      refine level_last (by rfl) (by rfl) (by rfl) (by rfl) V3 hCI3 hDI3 hCa3 hDa3 (fun k m₂ ys nx => nx = (I2, oI2) :: _ ∧ IntsAre ys (three3 rs i ++ three2 rs i j ++ three1 rs i j k) ∧ m₂ (Str.ofString "a") = some (.int (i : Int) ta) ∧ m₂ (Str.ofString "b") = some (.int (j : Int) tb) ∧ k ≤ j) ?hS3 st3 c3 hI3 ⟨rfl, by simpa [three1] using hy, hxa, hxb, Nat.zero_le _⟩ ?turn3 ?done3
      case hS3 =>
        rintro k m₂ ys led ⟨rfl, hy, _, _, hk⟩
        refine ⟨trivial, ?_⟩
        have e1 := ints_len hy
        rw [List.length_append, List.length_append, three1_len] at e1
        have e2 := three3_len rs i
        have e3 := three2_len rs i j
        have e4 : i * (i * i) ≤ 6 * (6 * 6) := Nat.mul_le_mul (by omega) (Nat.mul_le_mul (by omega) (by omega))
        have e5 : j * j ≤ 6 * 6 := Nat.mul_le_mul (by omega) (by omega)
        omega
      case turn3 =>
        clear hy hxa hxb hC st3 c3
        rintro k v m₄ ys led h9 tk9 oI3 E3 hk ⟨tc, rfl⟩ ⟨rfl, hy, ha, hb, _⟩ hoff3 ⟨F9, oC, hC, N9, off9, ne9⟩
        have e1 : (0 : Int) + (k : Int) = (k : Int) := by omega
        rw [e1] at hC
        have hxc : (fun y => if y = Str.ofString "c" then some (Value.int (k : Int) tc) else m₄ y) (Str.ofString "c") = some (Value.int (k : Int) tc) := if_pos rfl
        have hxa : (fun y => if y = Str.ofString "c" then some (Value.int (k : Int) tc) else m₄ y) (Str.ofString "a") = some (Value.int (i : Int) ta) := (if_neg (by decide)).trans ha
        have hxb : (fun y => if y = Str.ofString "c" then some (Value.int (k : Int) tc) else m₄ y) (Str.ofString "b") = some (Value.int (j : Int) tb) := (if_neg (by decide)).trans hb
        clear V3 hI3
        refine tests_nil ?_
        rw [if_pos rfl]
        k_steps
        refine CEnd.same (by assumption) (by assumption) hC off9 hoff3 ne9 ⟨⟨rfl, ?_, hxa, hxb, hk⟩, trivial, ?_⟩
        · rw [three1_succ, ← List.append_assoc]
          exact ints_snoc hy _ _
        · have e1 := ints_len hy
          rw [List.length_append, List.length_append, three1_len] at e1
          have e2 := three3_len rs i
          have e3 := three2_len rs i j
          have e4 : i * (i * i) ≤ 6 * (6 * 6) := Nat.mul_le_mul (by omega) (Nat.mul_le_mul (by omega) (by omega))
          have e5 : j * j ≤ 6 * 6 := Nat.mul_le_mul (by omega) (by omega)
          omega
      case done3 =>
        rintro m₄ ys led h9 tk9 ⟨rfl, hy, ha, hb, _⟩ c9 hoff9
        exact ⟨h9, tk9, m₄, ys, _, rfl, c9, hoff2, rfl, by rw [three2_succ, ← List.append_assoc]; exact hy, ha, hj⟩
    case done2 =>
      rintro m₃ ys led h7 tk7 ⟨rfl, hy, ha, _⟩ c7 hoff7
      exact ⟨h7, tk7, m₃, ys, _, rfl, c7, hoff, rfl, by rw [three3_succ]; exact hy, hi⟩
  case done =>
    rintro m₂ ys led h4 tk4 ⟨rfl, hy, _⟩ c4 hoff
    refine ⟨_, _, _, _, _, rfl, c4, ?_⟩
    intro h5 tk5 F5 N5 hD5
    clear F1 N1 V st c c4 hR hI
    refine hret D ys.length ys _ _ hy ?_
    walk_at "my LS"
end
/- L13 -/
section
theorem reset_L13 {prog : Program} {w : World} {A : Around} {env : Env} {Q : Flow → Shared → Prop} {E : Value → Shared → Prop} {s : Shared} (h : Q .next s) : wpAny (model prog w) A (execs [] env) Q E s := by
  k_with_none
  w_top off
  walk1
  exact h
variable {w : World} {loose : List Str} {mean : ExcName → Option Value} {mg mb : Str → Option Value} {h₀ : Heap} {L f : Addr} {cd : Value} {m : Str → Option Value} {dat : List (Addr × Obj)} {s : Shared}
  {Q : Flow → Shared → Prop} {E : Value → Shared → Prop} {v1 v2 v3 v4 v5 v6 : Option Value}
local macro_rules | `(tactic| walk_at "call builtin:max") => `(tactic| (k_here; refine Stop.of ?_))
theorem lines_L13_1 : True := by
  k_with "my sub" => (intro q9 hq9; first | exact hq9 | exact .tail _ hq9 | (rcases List.mem_cons.mp hq9 with rfl | hq9 <;> k_mem) | k_mem | exact .tail _ (.tail _ hq9) | exact .tail _ (.tail _ (.tail _ hq9)) | exact .tail _ (.tail _ (.tail _ (.tail _ hq9))) | (simp only [List.mem_append, List.mem_cons] at hq9 ⊢; grind))
  k_with "my pall" => first | assumption | exact PAll.mono (by assumption) (by walk_at "my sub")
  k_with "my pin" => first | assumption | exact PIn.mono (by assumption) (by walk_at "my sub")
  k_with "call builtin:len" => (k_here; (with_reducible show wpAny _ _ (call (Value.builtin "len") [Value.ref _]) _ _ _); k_dflt (refine' my_lenP ?k1 ?k2 ?k3 ?k4 ?_; (case k1 => k_asm); (case k2 => k_mem); (case k3 => assumption); (case k4 => omega)); intro _ _; (try dsimp only))
  k_with "my item" => (k_here; (with_reducible show wpAny _ _ (subscriptTail _ _ (Value.ref _) (Value.int _ _)) _ _ _); k_dflt (refine' my_itemA ?k1 ?k2 ?k3 ?k4 ?k5 ?k6 ?_ ?k8 ?k9; (case k1 => k_asm); (case k2 => k_mem); (case k3 => assumption); (case k4 => omega); (case k5 => omega); (case k6 => omega); (case k8 => with_unfolding_all rfl); (case k9 => (intro _; with_unfolding_all rfl))); intro _ _)
  k_with "compareOp Lt" => (k_here; (with_reducible show wpAny _ _ (compareOp CmpOp.Lt _ _) _ _ _); k_dflt (refine' my_lt ?k1 ?k2 ?k3 ?k4 ?_; (case k1 => k_asm); (case k2 => walk_at "my pin"); (case k3 => walk_at "my pin"); (case k4 => ktr_units)))
  k_with "compareOp NotEq" => (k_here; (with_reducible show wpAny _ _ (compareOp CmpOp.NotEq _ _) _ _ _); k_dflt (refine' my_ne ?k1 ?k2 ?k3 ?k4 ?_; (case k1 => k_asm); (case k2 => walk_at "my pin"); (case k3 => walk_at "my pin"); (case k4 => ktr_units)))
  k_with "binaryOp Add ref ref" => (k_here; (with_reducible show wpAny _ _ (binaryOp _ (Value.ref _) (Value.ref _)) _ _ _); k_dflt (refine' my_addP ?k1 ?k2 ?k3 ?k4 ?k7 ?k8 ?k5 ?k6 ?_; (case k1 => k_asm); (case k2 => k_asm); (case k3 => k_mem); (case k4 => k_mem); (case k7 => assumption); (case k8 => walk_at "my pall"); (case k5 => omega); (case k6 => omega)); intro _ _ _ _ _ _ _; (try k_sweep); (try dsimp only))
  k_with "subscriptTail Name Slice ref ref" => (k_here; (with_reducible show wpAny _ _ (subscriptTail _ (PySem.Expr.Slice none none (some _) _) (Value.ref _) (Value.ref _)) _ _ _); k_dflt (refine' my_rev ?k1 ?k2 ?k3 ?k4 ?k5 ?_ ?k8 ?k9; (case k1 => k_asm); (case k2 => k_asm); (case k3 => k_mem); (case k4 => exact IsPart.int _ _); (case k5 => omega); (case k8 => with_unfolding_all rfl); (case k9 => (intro _; with_unfolding_all rfl))); intro _ _ _ _ _; (try k_sweep); (try dsimp only))
  k_with "call ref" => (k_here; (with_reducible show wpAny _ _ (call (Value.ref 53) _) _ _ _); k_dflt (refine' turn_ok ?k1 ?k2 ?k3 ?k4 ?k5 ?k6 ?k7 ?k8 ?k9 ?k10 ?k11 ?k12 ?k13 ?k14 ?_; (case k1 => k_asm); (case k2 => k_asm); (case k3 => k_asm); (case k4 => k_asm); (case k5 => k_asm); (case k6 => first | exact rfl | assumption); (case k7 => ktr_room); (case k8 => ktr_units); (case k9 => walk_at "my pin"); (case k10 => walk_at "my pin"); (case k11 => walk_at "my pin"); (case k12 => walk_at "my bd"); (case k13 => walk_at "my bd"); (case k14 => walk_at "my bd")); intro _ _ _ _ _; (try dsimp only))
  k_with "my bd" => first | assumption | (refine bd_at ?_ ?_ ?_ <;> first | assumption | omega)
  k_with "call ref" => (k_here; (with_reducible show wpAny _ _ (call (Value.ref 60) _) _ _ _); k_dflt (refine' half_ok ?k1 ?k2 ?k3 ?k4 ?k5 ?k6 ?k7 ?k8 ?k9 ?k13 ?k10 ?k11 ?k12 ?_; (case k1 => k_asm); (case k2 => k_asm); (case k3 => k_asm); (case k4 => k_asm); (case k5 => k_asm); (case k6 => first | exact rfl | assumption); (case k7 => ktr_room); (case k8 => ktr_units); (case k9 => k_mem); (case k10 => first | assumption | exact PAll.reverse (by assumption)); (case k13 => walk_at "my sub"); (case k11 => walk_at "my bds"); (case k12 => walk_at "my len")); intro _ _ _ _ _ _ _ _ _; (try dsimp only))
  k_with "my bds" => assumption
  k_with "my len" => first | omega | (simp only [List.length_append, List.length_cons, List.length_nil, List.length_reverse, List.length_map] at *; omega)
  k_with "my law" => (dsimp only [lawBody, lawScope, fdBody, fdScope, nth, PySem.Challenge.pw_zz0003_01])
  k_with "my LS" => (refine' LS.of ?F9 ?N9 ?d1 ?d2 ?d3 ?d4 ?d5 ?d6 ?m6 ?m5 ?m4 ?m3 ?m2 ?m1 ?hs ?off; (case F9 => assumption); (case N9 => assumption); (case m6 => k_mem); (case m5 => k_mem); (case m4 => k_mem); (case m3 => k_mem); (case m2 => k_mem); (case m1 => k_mem); (case d1 => assumption); (case d2 => assumption); (case d3 => assumption); (case d4 => assumption); (case d5 => assumption); (case d6 => assumption); (case hs => walk_at "my sub"); (case off => walk_at "my off"))
  k_with "my off" => first | assumption | (refine off_add ?_ (by omega); walk_at "my off")
  k_with "subscriptTail Name Slice ref ref" => (k_here; (with_reducible show wpAny _ _ (subscriptTail _ (PySem.Expr.Slice (some _) none none _) (Value.ref _) (Value.ref _)) _ _ _); k_dflt (refine' my_from (j := 2) ?k1 ?k2 ?k3 ?k4 ?k5 ?k6 ?_ ?k8 ?k9; (case k1 => k_asm); (case k2 => k_asm); (case k3 => k_mem); (case k4 => exact IsPart.int _ _); (case k5 => exact IsPart.none); (case k6 => walk_at "my len"); (case k8 => with_unfolding_all rfl); (case k9 => (intro _; with_unfolding_all rfl))); intro _ _ _ _ _; (try k_sweep); (try dsimp only))
  k_with "subscriptTail Name Constant ref int" => (k_here; (with_reducible show wpAny _ _ (subscriptTail _ _ (Value.ref _) (Value.int 0 _)) _ _ _); k_dflt (refine' my_at (j := 0) ?k1 ?k2 ?k3 ?k4 ?k5 ?_ ?k7 ?k8; (case k1 => k_asm); (case k2 => k_mem); (case k3 => first | omega | (simp only [List.length_cons] at *; omega)); (case k4 => exact Or.inl rfl); (case k5 => rfl); (case k7 => with_unfolding_all rfl); (case k8 => (intro _; with_unfolding_all rfl))))
  trivial
theorem ints_val {ys : List Value} {ss : List Int} {i : Nat} {v : Value} (R : IntsAre ys ss) (hi : i < ys.toArray.size) (hv : ys.toArray[i]? = some v) : ∃ (n : Int) (t : Tok), v = .int n t ∧ n ∈ ss := by
  have hv' : ys[i]? = some v := by simpa using hv
  clear hv hi
  induction R generalizing i with
  | nil => simp at hv'
  | cons n t r ih =>
    cases i with
    | zero => simp only [List.getElem?_cons_zero, Option.some.injEq] at hv'; exact ⟨n, t, hv'.symm, .head _⟩
    | succ i =>
      simp only [List.getElem?_cons_succ] at hv'
      obtain ⟨n', t', e, h⟩ := ih hv'
      exact ⟨n', t', e, .tail _ h⟩
theorem seg13 {ds ns dt nt : Nat} {t0 : Tok} {s0 : Int} {ys zs : List Value} {ss ts : List Int}
    (B : Below callerA h₀ [] h₀) (X : (hd.heap_39 w.params).In h₀) (T : Top hd.view_39 loose mean mg mb h₀)
    (H : LS h₀ L m v1 v2 v3 v4 v5 (some (.ref ds)) dat s.heap)
    (hm3 : m (Str.ofString "three") = some (.ref dt))
    (hl : (ds, listOf (.int s0 t0 :: ys).toArray ns) ∈ dat) (R : IntsAre (.int s0 t0 :: ys) ss) (hl2 : (dt, listOf zs.toArray nt) ∈ dat) (R2 : IntsAre zs ts)
    (hz : ss.length ≤ 6) (hz2 : ts.length ≤ 1000) (h20 : 0 < ts.length)
    (hss : ∀ x ∈ ss, x = s0) (hts : ∀ x ∈ ts, x ≤ s0) (htp : ∃ x ∈ ts, 0 < x)
    (hret : ∀ m h' tk', LS h₀ L m v1 v2 v3 v4 v5 (some (.ref ds)) dat h' → Q (.ret (.bool true)) { s with heap := h', toks := tk' }) :
    wpAny (model PySem.Challenge.rw_zz0003_01.row.prog w) (callerA.deeper (lawEnv L f cd)) (exec (nth lawBody 13) (lawEnv L f cd)) Q E s := by
  revert X; k_fill; intro X
  walk_at "my law"
  have hvl := ints_len R
  have hvl2 := ints_len R2
  obtain ⟨F, ⟨o1, o2, o3, o4, o5, o6, d1, d2, d3, d4, d5, d6, N⟩, off⟩ := H
  obtain ⟨m', F'⟩ := fr_known1 (k := Str.ofString "three") F hm3
  clear F hm3
  k_steps
  refine Stop.go ?_
  refine comp_eval (h₀ := h₀) (L := L) (by intro _; with_unfolding_all rfl) (by with_unfolding_all rfl) (by decide) (by rfl) (by decide) ?_
  k_steps
  refine Stop.go ?_
  refine top_list (vs := .int s0 t0 :: ys) (k := ns) rfl F' N (by k_mem) ?_
  intro I2 C D h2 h3 tk3 V st c hI hCI hDI hCa hDa hDs
  refine level_last (by rfl) (by rfl) (by rfl) (by rfl) V hCI hDI hCa hDa (Jfix _ fun i ys => ys = []) ?hS st c hI ⟨rfl, rfl⟩ ?turn ?done
  case hS =>
    rintro i m₂ zs led ⟨rfl, rfl⟩
    exact ⟨.inr ⟨_, by k_mem, rfl, _, rfl⟩, Nat.zero_le _⟩
  case turn =>
    rintro i2 v m₂ us led h4 tk4 oI2 E2 hi2 hv ⟨rfl, rfl⟩ hoff ⟨F4, oC, hC, N4, off4, ne4⟩
    obtain ⟨n9, t9, rfl, hmem⟩ := ints_val R hi2 hv
    have hx : (fun y => if y = Str.ofString "size" then some (Value.int n9 t9) else m₂ y) (Str.ofString "size") = some (Value.int n9 t9) := if_pos rfl
    have c3 := hss _ hmem
    clear N F' V st c hI hv hss hts htp
    refine tests_one ?_
    k_steps
    · exact absurd c3 (by assumption)
    · exact CEnd.same (by assumption) (by assumption) hC off4 hoff ne4 ⟨rfl, rfl⟩
  case done =>
    rintro m₂ us led h4 tk4 ⟨rfl, rfl⟩ c4 hoff
    refine ⟨_, _, _, _, _, rfl, c4, ?_⟩
    intro h5 F5 N5 hD5
    clear F' N V st c c4 hI
    k_steps
    refine Stop.go ?_
    rename Fr _ _ _ _ => F6
    rename News _ _ _ _ => N6
    refine max_list_N rfl F6 N6 (my_isList N6 (by k_mem)) R2 h20 ?_
    intro h7 M9 t9 tk9 F7 N7 hM1 hM2
    have q1 := hts _ hM1
    have q2 : 0 < M9 := by
      obtain ⟨x, hx1, hx2⟩ := htp
      have := hM2 x hx1
      omega
    clear F6 N6
    k_steps
    rw [decide_eq_true q2]
    exact hret _ _ _ (by walk_at "my LS")
end
/- L20 -/
section
theorem reset_L20 {prog : Program} {w : World} {A : Around} {env : Env} {Q : Flow → Shared → Prop} {E : Value → Shared → Prop} {s : Shared} (h : Q .next s) : wpAny (model prog w) A (execs [] env) Q E s := by
  k_with_none
  w_top off
  walk1
  exact h
variable {w : World} {loose : List Str} {mean : ExcName → Option Value} {mg mb : Str → Option Value} {h₀ : Heap} {L f : Addr} {cd : Value} {m : Str → Option Value} {dat : List (Addr × Obj)} {s : Shared}
  {Q : Flow → Shared → Prop} {E : Value → Shared → Prop} {v1 v2 v3 v4 v5 v6 : Option Value}
theorem lines_L20_1 : True := by
  k_with "my sub" => (intro q9 hq9; first | exact hq9 | exact .tail _ hq9 | (rcases List.mem_cons.mp hq9 with rfl | hq9 <;> k_mem) | k_mem | exact .tail _ (.tail _ hq9) | exact .tail _ (.tail _ (.tail _ hq9)) | exact .tail _ (.tail _ (.tail _ (.tail _ hq9))) | (simp only [List.mem_append, List.mem_cons] at hq9 ⊢; grind))
  k_with "my pall" => first | assumption | exact PAll.mono (by assumption) (by walk_at "my sub")
  k_with "my pin" => first | assumption | exact PIn.mono (by assumption) (by walk_at "my sub")
  k_with "call builtin:len" => (k_here; (with_reducible show wpAny _ _ (call (Value.builtin "len") [Value.ref _]) _ _ _); k_dflt (refine' my_lenP ?k1 ?k2 ?k3 ?k4 ?_; (case k1 => k_asm); (case k2 => k_mem); (case k3 => assumption); (case k4 => omega)); intro _ _; (try dsimp only))
  k_with "my item" => (k_here; (with_reducible show wpAny _ _ (subscriptTail _ _ (Value.ref _) (Value.int _ _)) _ _ _); k_dflt (refine' my_itemA ?k1 ?k2 ?k3 ?k4 ?k5 ?k6 ?_ ?k8 ?k9; (case k1 => k_asm); (case k2 => k_mem); (case k3 => assumption); (case k4 => omega); (case k5 => omega); (case k6 => omega); (case k8 => with_unfolding_all rfl); (case k9 => (intro _; with_unfolding_all rfl))); intro _ _)
  k_with "compareOp Lt" => (k_here; (with_reducible show wpAny _ _ (compareOp CmpOp.Lt _ _) _ _ _); k_dflt (refine' my_lt ?k1 ?k2 ?k3 ?k4 ?_; (case k1 => k_asm); (case k2 => walk_at "my pin"); (case k3 => walk_at "my pin"); (case k4 => ktr_units)))
  k_with "compareOp NotEq" => (k_here; (with_reducible show wpAny _ _ (compareOp CmpOp.NotEq _ _) _ _ _); k_dflt (refine' my_ne ?k1 ?k2 ?k3 ?k4 ?_; (case k1 => k_asm); (case k2 => walk_at "my pin"); (case k3 => walk_at "my pin"); (case k4 => ktr_units)))
  k_with "binaryOp Add ref ref" => (k_here; (with_reducible show wpAny _ _ (binaryOp _ (Value.ref _) (Value.ref _)) _ _ _); k_dflt (refine' my_addP ?k1 ?k2 ?k3 ?k4 ?k7 ?k8 ?k5 ?k6 ?_; (case k1 => k_asm); (case k2 => k_asm); (case k3 => k_mem); (case k4 => k_mem); (case k7 => assumption); (case k8 => walk_at "my pall"); (case k5 => omega); (case k6 => omega)); intro _ _ _ _ _ _ _; (try k_sweep); (try dsimp only))
  k_with "subscriptTail Name Slice ref ref" => (k_here; (with_reducible show wpAny _ _ (subscriptTail _ (PySem.Expr.Slice none none (some _) _) (Value.ref _) (Value.ref _)) _ _ _); k_dflt (refine' my_rev ?k1 ?k2 ?k3 ?k4 ?k5 ?_ ?k8 ?k9; (case k1 => k_asm); (case k2 => k_asm); (case k3 => k_mem); (case k4 => exact IsPart.int _ _); (case k5 => omega); (case k8 => with_unfolding_all rfl); (case k9 => (intro _; with_unfolding_all rfl))); intro _ _ _ _ _; (try k_sweep); (try dsimp only))
  k_with "call ref" => (k_here; (with_reducible show wpAny _ _ (call (Value.ref 53) _) _ _ _); k_dflt (refine' turn_ok ?k1 ?k2 ?k3 ?k4 ?k5 ?k6 ?k7 ?k8 ?k9 ?k10 ?k11 ?k12 ?k13 ?k14 ?_; (case k1 => k_asm); (case k2 => k_asm); (case k3 => k_asm); (case k4 => k_asm); (case k5 => k_asm); (case k6 => first | exact rfl | assumption); (case k7 => ktr_room); (case k8 => ktr_units); (case k9 => walk_at "my pin"); (case k10 => walk_at "my pin"); (case k11 => walk_at "my pin"); (case k12 => walk_at "my bd"); (case k13 => walk_at "my bd"); (case k14 => walk_at "my bd")); intro _ _ _ _ _; (try dsimp only))
  k_with "my bd" => first | assumption | (refine bd_at ?_ ?_ ?_ <;> first | assumption | omega)
  k_with "call ref" => (k_here; (with_reducible show wpAny _ _ (call (Value.ref 60) _) _ _ _); k_dflt (refine' half_ok ?k1 ?k2 ?k3 ?k4 ?k5 ?k6 ?k7 ?k8 ?k9 ?k13 ?k10 ?k11 ?k12 ?_; (case k1 => k_asm); (case k2 => k_asm); (case k3 => k_asm); (case k4 => k_asm); (case k5 => k_asm); (case k6 => first | exact rfl | assumption); (case k7 => ktr_room); (case k8 => ktr_units); (case k9 => k_mem); (case k10 => first | assumption | exact PAll.reverse (by assumption)); (case k13 => walk_at "my sub"); (case k11 => walk_at "my bds"); (case k12 => walk_at "my len")); intro _ _ _ _ _ _ _ _ _; (try dsimp only))
  k_with "my bds" => assumption
  k_with "my len" => first | omega | (simp only [List.length_append, List.length_cons, List.length_nil, List.length_reverse, List.length_map] at *; omega)
  k_with "my law" => (dsimp only [lawBody, lawScope, fdBody, fdScope, nth, PySem.Challenge.pw_zz0003_01])
  k_with "my LS" => (refine' LS.of ?F9 ?N9 ?d1 ?d2 ?d3 ?d4 ?d5 ?d6 ?m6 ?m5 ?m4 ?m3 ?m2 ?m1 ?hs ?off; (case F9 => assumption); (case N9 => assumption); (case m6 => k_mem); (case m5 => k_mem); (case m4 => k_mem); (case m3 => k_mem); (case m2 => k_mem); (case m1 => k_mem); (case d1 => assumption); (case d2 => assumption); (case d3 => assumption); (case d4 => assumption); (case d5 => assumption); (case d6 => assumption); (case hs => walk_at "my sub"); (case off => walk_at "my off"))
  k_with "my off" => first | assumption | (refine off_add ?_ (by omega); walk_at "my off")
  k_with "subscriptTail Name Slice ref ref" => (k_here; (with_reducible show wpAny _ _ (subscriptTail _ (PySem.Expr.Slice (some _) none none _) (Value.ref _) (Value.ref _)) _ _ _); k_dflt (refine' my_from (j := 2) ?k1 ?k2 ?k3 ?k4 ?k5 ?k6 ?_ ?k8 ?k9; (case k1 => k_asm); (case k2 => k_asm); (case k3 => k_mem); (case k4 => exact IsPart.int _ _); (case k5 => exact IsPart.none); (case k6 => walk_at "my len"); (case k8 => with_unfolding_all rfl); (case k9 => (intro _; with_unfolding_all rfl))); intro _ _ _ _ _; (try k_sweep); (try dsimp only))
  trivial
structure Full (ps : List Pt) : Prop where
  h3 : 3 ≤ (ring ps).length
  c1 : ∀ k : Nat, k < (ring ps).length → 0 < turn (atI (ring ps) ((k : Int) - 2)) (atI (ring ps) ((k : Int) - 1)) (atI (ring ps) (k : Int))
  c2 : ∀ k : Nat, k < (ring ps).length → ∀ p ∈ ps, 0 ≤ turn (atI (ring ps) ((k : Int) - 1)) (atI (ring ps) (k : Int)) p
  c6 : ∀ p ∈ ps, decide (p ∈ ring ps) = (decide (in3 (rest ps p) p (rest ps p).length = []) && decide (bt2 p (rest ps p) (rest ps p) = []))
  c7a : (ring (ring ps)).Nodup
  c7b : (ring (ring ps)).length = (ring ps).length
  c7c : ordr (ring (ring ps)) = ordr (ring ps)
  c10 : ∀ mid : Pt, mid = ((atI (ring ps) 0).1 + (atI (ring ps) 1).1, (atI (ring ps) 0).2 + (atI (ring ps) 1).2) → ring (ps.map dbl ++ if mid ∈ ps.map dbl then [] else [mid]) = ring (ps.map dbl)
  c11 : ∀ k : Nat, k < (ring ps).length → areaTo (ring ps) (k : Int) (ring ps).length = areaTo (ring ps) 0 (ring ps).length
  c12 : ∀ x ∈ three3 (ring ps) (ring ps).length, x ≤ areaTo (ring ps) 0 (ring ps).length
  c13 : ∃ x ∈ three3 (ring ps) (ring ps).length, 0 < x
structure LawFacts (ps : List Pt) : Prop where
  nd : (ring ps).Nodup
  len : (ring ps).length ≤ ps.length
  sub : ∀ p ∈ ring ps, p ∈ ps
  small : ps.length < 3 → ordr (ring ps) = ordr ps
  flat : ∀ p0 ps', ps = p0 :: ps' → 3 ≤ ps.length → flatL (atI ps 0) (atI ps 1) (ps.drop 2) = [] → [bst false p0 ps', bst true p0 ps'].Nodup ∧ ordr (ring ps) = ordr [bst false p0 ps', bst true p0 ps']
  full : 3 ≤ ps.length → flatL (atI ps 0) (atI ps 1) (ps.drop 2) ≠ [] → Full ps
theorem ptOf_bd (n : Int) : 0 ≤ (ptOf n).1 ∧ (ptOf n).1 ≤ 7 ∧ 0 ≤ (ptOf n).2 ∧ (ptOf n).2 ≤ 7 := by
  unfold ptOf
  dsimp only
  have h1 := Int.fmod_nonneg_of_pos n (show (0 : Int) < 8 by decide)
  have h2 := Int.fmod_lt_of_pos n (show (0 : Int) < 8 by decide)
  have h3 := Int.fmod_nonneg_of_pos (n.fdiv 8) (show (0 : Int) < 8 by decide)
  have h4 := Int.fmod_lt_of_pos (n.fdiv 8) (show (0 : Int) < 8 by decide)
  omega
theorem lawPts_bd : ∀ (ns : List Int) (qs : List Pt), (∀ p ∈ qs, 0 ≤ p.1 ∧ p.1 ≤ 7 ∧ 0 ≤ p.2 ∧ p.2 ≤ 7) → ∀ p ∈ ns.foldl addP qs, 0 ≤ p.1 ∧ p.1 ≤ 7 ∧ 0 ≤ p.2 ∧ p.2 ≤ 7
  | [], qs, h => h
  | n :: ns, qs, h => lawPts_bd ns (addP qs n) fun p hp => by
    rcases List.mem_append.mp hp with hp | hp
    · exact h p hp
    · split at hp
      · cases hp
      · rw [List.mem_singleton.mp hp]; exact ptOf_bd n
theorem lawPts_nd : ∀ (ns : List Int) (qs : List Pt), qs.Nodup → (ns.foldl addP qs).Nodup
  | [], qs, h => h
  | n :: ns, qs, h => lawPts_nd ns (addP qs n) (by
    unfold addP
    split
    · simpa using h
    · rename_i hn
      rw [List.nodup_append]
      refine ⟨h, by simp, ?_⟩
      intro a ha b hb e
      rw [List.mem_singleton.mp hb] at e
      exact hn (e ▸ ha))
theorem law_walk {sl : Nat} {us : List Value} {ns : List Int}
    (B : Below callerA h₀ [] h₀) (X : (hd.heap_39 w.params).In h₀) (T : Top hd.view_39 loose mean mg mb h₀) (hbig : sysModules < h₀.objs.size)
    (H : LS h₀ L m v1 v2 v3 v4 v5 v6 [] s.heap)
    (hms : m (Str.ofString "script") = some (.ref sl)) (hL : h₀.IsList sl us.toArray) (hI : IntsAre us ns) (hz : ns.length ≤ 63)
    (hf : LawFacts (lawPts (ns.take 6)))
    (hret : ∀ m h' tk', Fr h₀ L h' m → Q (.ret (.bool true)) { s with heap := h', toks := tk' }) :
    wpAny (model PySem.Challenge.rw_zz0003_01.row.prog w) (callerA.deeper (lawEnv L f cd)) (execs lawBody (lawEnv L f cd)) Q E s := by
  have e0 : lawBody = [nth lawBody 0, nth lawBody 1, nth lawBody 2, nth lawBody 3, nth lawBody 4, nth lawBody 5, nth lawBody 6, nth lawBody 7, nth lawBody 8, nth lawBody 9, nth lawBody 10, nth lawBody 11, nth lawBody 12, nth lawBody 13] := rfl
  rw [e0]
  refine wpAny_execs_cons ?_
  refine seg0 B X T H ?_
  intro D0 h0 tk0 H0
  refine wpAny_execs_cons ?_
  refine seg1 B X T H0 hms hL hI hz ?_
  intro m1 v21 D1 c1 ws1 nw1 h1 tk1 R1 H1
  have hnd : (lawPts (ns.take 6)).Nodup := lawPts_nd _ [] .nil
  have hbx : ∀ p ∈ lawPts (ns.take 6), 0 ≤ p.1 ∧ p.1 ≤ 7 ∧ 0 ≤ p.2 ∧ p.2 ≤ 7 := lawPts_bd _ [] (fun p hp => nomatch hp)
  have hlen : (lawPts (ns.take 6)).length ≤ 6 := by
    have q1 := lawPts_len (ns.take 6) []
    rw [List.length_take] at q1
    simp only [List.length_nil] at q1
    unfold lawPts
    omega
  generalize lawPts (ns.take 6) = ps at *
  have hbd : ∀ p ∈ ps, Bd p := fun p hp => by have := hbx p hp; unfold Bd; omega
  have R1' := R1.mono (news' := (D1, listOf ws1.toArray c1) :: nw1) fun q hq => .tail _ hq
  refine wpAny_execs_cons ?_
  refine seg2 B X T H1 (.head _) R1' hbd hlen hnd ?_
  intro D2 ws2 c2 h2 tk2 H2 R2
  have hb2 : ∀ p ∈ ring ps, Bd p := fun p hp => hbd p (hf.sub p hp)
  have hl2 := Nat.le_trans hf.len hlen
  have s2 : ∀ q ∈ (D1, listOf ws1.toArray c1) :: nw1, q ∈ (D2, listOf ws2.toArray c2) :: (D1, listOf ws1.toArray c1) :: nw1 := fun q hq => .tail _ hq
  replace R1' := R1'.mono s2
  replace R2 := R2.mono s2
  refine wpAny_execs_cons ?_
  refine seg3 B X T H2 (.tail _ (.head _)) R1' hbd hlen ?_
  intro h3 tk3 H3
  refine wpAny_execs_cons ?_
  by_cases hsm : ps.length < 3
  · refine seg4a B X T H3 (.tail _ (.head _)) R1' hsm hnd (.head _) R2 hl2 hf.nd (hf.small hsm) ?_
    intro h4 tk4 H4
    exact hret _ h4 tk4 H4.F
  · obtain ⟨p0, ps', rfl⟩ : ∃ p0 ps', ps = p0 :: ps' := by
      cases ps with
      | nil => exact absurd (by simp) hsm
      | cons p0 ps' => exact ⟨p0, ps', rfl⟩
    have h30 : 3 ≤ (p0 :: ps').length := Nat.not_lt.mp hsm
    refine seg4b B X T H3 (.tail _ (.head _)) R1' h30 (by simpa using hlen) hnd (.head _) R2 hl2 hf.nd rfl (fun e => (hf.flat p0 ps' rfl h30 (of_decide_eq_true e)).1) (fun e => (hf.flat p0 ps' rfl h30 (of_decide_eq_true e)).2) (fun _ m h4 tk4 H4 => hret _ h4 tk4 H4.F) ?_
    intro hfl m4 h4 tk4 H4
    have ff := hf.full h30 (of_decide_eq_false hfl)
    refine wpAny_execs_cons ?_
    refine seg5 B X T H4 (.tail _ (.head _)) R1' hbd hlen (.head _) R2 hb2 hl2 ff.h3 ff.c1 ff.c2 ?_
    intro v45 h5 tk5 H5
    refine wpAny_execs_cons ?_
    refine seg6 B X T H5 (.tail _ (.head _)) R1' hbd hlen (.head _) R2 hl2 ff.c6 ?_
    intro m6 v26 v56 h6 tk6 H6
    refine wpAny_execs_cons ?_
    refine seg7 B X T hbig H6 (.head _) R2 hb2 hl2 ff.h3 hf.nd ff.c7a ff.c7b ff.c7c ?_
    intro m7 h7 tk7 H7
    refine wpAny_execs_cons ?_
    refine seg8 B X T H7 (.head _) R2 hb2 hl2 ff.h3 ?_
    intro a8 o8 h8 tk8 hP8 H8
    refine wpAny_execs_cons ?_
    refine seg9 B X T H8 (.tail _ (.tail _ (.head _))) (R1'.mono fun q hq => .tail _ hq) hbd hlen ?_
    intro D9 c9 ws9 nw9 h9 tk9 R9 H9
    refine wpAny_execs_cons ?_
    refine seg10 (om := o8) (mid := ((atI (ring (p0 :: ps')) 0).1 + (atI (ring (p0 :: ps')) 1).1, (atI (ring (p0 :: ps')) 0).2 + (atI (ring (p0 :: ps')) 1).2)) B X T H9 rfl rfl (hP8.mono ?_) ?_ (.head _) (R9.mono fun q hq => .tail _ (List.mem_append_left _ hq)) ?_ ?_ ?_ (ff.c10 _ rfl) ?_
    · intro q hq
      rw [List.mem_singleton.mp hq]
      exact .tail _ (List.mem_append_right _ (.head _))
    · have q0 := hbx _ (hf.sub _ (atI_mem (k := 0) (by omega) (by have := ff.h3; omega)))
      have q1 := hbx _ (hf.sub _ (atI_mem (k := 1) (by omega) (by have := ff.h3; omega)))
      unfold Bd
      dsimp only
      omega
    · intro p hp
      obtain ⟨q, hq, rfl⟩ := List.mem_map.mp hp
      have := hbx q hq
      unfold Bd dbl
      dsimp only
      omega
    · simpa using hlen
    · refine List.pairwise_map.mpr (hnd.imp fun {a b} hab e => hab ?_)
      unfold dbl at e
      simp only [Prod.mk.injEq] at e
      exact Prod.ext (by omega) (by omega)
    intro m10 h10 tk10 H10
    have s10 : ∀ q ∈ (D2, listOf ws2.toArray c2) :: (D1, listOf ws1.toArray c1) :: nw1, q ∈ (D9, listOf ws9.toArray c9) :: (nw9 ++ (a8, o8) :: (D2, listOf ws2.toArray c2) :: (D1, listOf ws1.toArray c1) :: nw1) := fun q hq => .tail _ (List.mem_append_right _ (.tail _ hq))
    refine wpAny_execs_cons ?_
    refine seg11 B X T H10 (s10 _ (.head _)) (R2.mono s10) hb2 hl2 ?_
    intro D11 c11 ys11 h11 tk11 R11 H11
    refine wpAny_execs_cons ?_
    refine seg12 B X T H11 (.tail _ (s10 _ (.head _))) (R2.mono fun q hq => .tail _ (s10 q hq)) hb2 hl2 ?_
    intro D12 c12 ys12 h12 tk12 R12 H12
    refine wpAny_execs_cons ?_
    obtain ⟨k, hk⟩ : ∃ k, (ring (p0 :: ps')).length = k + 1 := ⟨(ring (p0 :: ps')).length - 1, by have := ff.h3; omega⟩
    have hall : ∀ x ∈ (List.range (ring (p0 :: ps')).length).map (fun (k : Nat) => areaTo (ring (p0 :: ps')) (k : Int) (ring (p0 :: ps')).length), x = areaTo (ring (p0 :: ps')) 0 (ring (p0 :: ps')).length := by
      intro x hx
      obtain ⟨k, hk, rfl⟩ := List.mem_map.mp hx
      exact ff.c11 k (List.mem_range.mp hk)
    have hl11 : ((List.range (ring (p0 :: ps')).length).map (fun (k : Nat) => areaTo (ring (p0 :: ps')) (k : Int) (ring (p0 :: ps')).length)).length = (ring (p0 :: ps')).length := by simp
    have h12 := three3_len (ring (p0 :: ps')) (ring (p0 :: ps')).length
    have h12' : (three3 (ring (p0 :: ps')) (ring (p0 :: ps')).length).length ≤ 1000 := by
      have : (ring (p0 :: ps')).length * ((ring (p0 :: ps')).length * (ring (p0 :: ps')).length) ≤ 6 * (6 * 6) := Nat.mul_le_mul hl2 (Nat.mul_le_mul hl2 hl2)
      omega
    generalize hss : (List.range (ring (p0 :: ps')).length).map (fun (k : Nat) => areaTo (ring (p0 :: ps')) (k : Int) (ring (p0 :: ps')).length) = ss at *
    cases R11 with
    | nil => rw [← hl11] at hk; simp at hk
    | @cons n0 t0 ys0 ss0 r0 =>
      have en : n0 = areaTo (ring (p0 :: ps')) 0 (ring (p0 :: ps')).length := hall _ (.head _)
      refine seg13 B X T H12 rfl (.tail _ (.head _)) (.cons n0 t0 r0) (.head _) R12 ?_ h12' ?_ ?_ ?_ ff.c13 ?_
      · omega
      · obtain ⟨x, hx, _⟩ := ff.c13
        exact List.length_pos_of_mem hx
      · intro x hx
        rw [hall x hx, en]
      · intro x hx
        rw [en]
        exact ff.c12 x hx
      · intro m13 h13 tk13 H13
        exact hret _ h13 tk13 H13.F
end
end
end
end
end Mine

/- M1 -/
namespace Mine
open PySem
/-- a linear height -/
def ht (A B : Int) (p : Pt) : Int := A * p.1 + B * p.2
theorem four (A B : Int) (a b c d : Pt) : turn b c d * ht A B a + turn a b d * ht A B c = turn a c d * ht A B b + turn a b c * ht A B d := by
  unfold turn ht
  grind
theorem fsum (a b c d : Pt) : turn b c d + turn a b d = turn a c d + turn a b c := by
  unfold turn
  grind
theorem tcyc (a b c : Pt) : turn b c a = turn a b c := by
  unfold turn
  grind
theorem tswap (a b c : Pt) : turn b a c = - turn a b c := by
  unfold turn
  grind
theorem tswap' (a b c : Pt) : turn a c b = - turn a b c := by
  unfold turn
  grind
theorem pos_of {k x y : Int} (hk : 0 < k) (e : x * k = y) (hy : 0 < y) : 0 < x := by
  rcases Int.lt_or_le 0 x with h | h
  · exact h
  · have := Int.mul_nonpos_of_nonpos_of_nonneg h (Int.le_of_lt hk)
    omega
theorem nn_of {k x y : Int} (hk : 0 < k) (e : x * k = y) (hy : 0 ≤ y) : 0 ≤ x := by
  rcases Int.lt_or_le x 0 with h | h
  · have := Int.mul_neg_of_neg_of_pos h hk
    omega
  · exact h
section
variable {A B : Int} {a b c d p q : Pt}
/-- T1 -/
theorem t1 (h1 : ht A B a < ht A B b) (h2 : ht A B b < ht A B c) (h3 : ht A B b < ht A B d) (u : 0 < turn a b c) (v : 0 ≤ turn b c d) : 0 < turn a b d := by
  have e : turn a b d * (ht A B c - ht A B b) = turn a b c * (ht A B d - ht A B b) + turn b c d * (ht A B b - ht A B a) := by
    have := four A B a b c d
    have := fsum a b c d
    grind
  have m1 := Int.mul_pos u (show 0 < ht A B d - ht A B b by omega)
  have m2 := Int.mul_nonneg v (show 0 ≤ ht A B b - ht A B a by omega)
  exact pos_of (show 0 < ht A B c - ht A B b by omega) e (by omega)
theorem t1w (h1 : ht A B a < ht A B b) (h2 : ht A B b < ht A B c) (h3 : ht A B b < ht A B d) (u : 0 ≤ turn a b c) (v : 0 ≤ turn b c d) : 0 ≤ turn a b d := by
  have e : turn a b d * (ht A B c - ht A B b) = turn a b c * (ht A B d - ht A B b) + turn b c d * (ht A B b - ht A B a) := by
    have := four A B a b c d
    have := fsum a b c d
    grind
  have m1 := Int.mul_nonneg u (show 0 ≤ ht A B d - ht A B b by omega)
  have m2 := Int.mul_nonneg v (show 0 ≤ ht A B b - ht A B a by omega)
  exact nn_of (show 0 < ht A B c - ht A B b by omega) e (by omega)
/-- T2 -/
theorem t2 (h1 : ht A B b < ht A B c) (h2 : ht A B c < ht A B p) (h3 : ht A B q ≤ ht A B p) (u : turn b c p ≤ 0) (v : 0 ≤ turn c p q) : 0 ≤ turn b p q := by
  have e : turn b p q * (ht A B p - ht A B c) = turn c p q * (ht A B p - ht A B b) + (- turn b c p) * (ht A B p - ht A B q) := by
    have := four A B b c q p
    have := fsum b c q p
    have := tswap' b q p
    have := tswap' c q p
    grind
  have m1 := Int.mul_nonneg v (show 0 ≤ ht A B p - ht A B b by omega)
  have m2 := Int.mul_nonneg (show 0 ≤ - turn b c p by omega) (show 0 ≤ ht A B p - ht A B q by omega)
  exact nn_of (show 0 < ht A B p - ht A B c by omega) e (by omega)
/-- T3 -/
theorem t3 (h1 : ht A B b < ht A B c) (h2 : ht A B c < ht A B p) (h3 : ht A B b ≤ ht A B q) (u : turn b c p ≤ 0) (v : 0 ≤ turn b c q) : 0 ≤ turn b p q := by
  have e : turn b p q * (ht A B c - ht A B b) = (- turn b c p) * (ht A B q - ht A B b) + turn b c q * (ht A B p - ht A B b) := by
    have := four A B b q c p
    have := fsum b q c p
    have := tswap' b q p
    have := tswap' b q c
    grind
  have m1 := Int.mul_nonneg (show 0 ≤ - turn b c p by omega) (show 0 ≤ ht A B q - ht A B b by omega)
  have m2 := Int.mul_nonneg v (show 0 ≤ ht A B p - ht A B b by omega)
  exact nn_of (show 0 < ht A B c - ht A B b by omega) e (by omega)
/-- T4 -/
theorem t4 (h1 : ht A B a < ht A B b) (h2 : ht A B b < ht A B p) (h3 : ht A B q ≤ ht A B b) (u : 0 ≤ turn a b p) (v : 0 ≤ turn a b q) : 0 ≤ turn b p q := by
  have e : turn b p q * (ht A B b - ht A B a) = turn a b p * (ht A B b - ht A B q) + turn a b q * (ht A B p - ht A B b) := by
    have := four A B a q b p
    have := fsum a q b p
    have := tswap' a q b
    have := tcyc q b p
    grind
  have m1 := Int.mul_nonneg u (show 0 ≤ ht A B b - ht A B q by omega)
  have m2 := Int.mul_nonneg v (show 0 ≤ ht A B p - ht A B b by omega)
  exact nn_of (show 0 < ht A B b - ht A B a by omega) e (by omega)
end
end Mine

/- M2 -/
namespace Mine
open PySem
section
variable {A B : Int}
/-- a stack (top first): heights fall, turns are strict, all of S lies left of each edge -/
def Stk (A B : Int) (S : List Pt) : List Pt → Prop
  | z :: y :: r => ht A B y < ht A B z ∧ (∀ q ∈ S, 0 ≤ turn y z q) ∧ (∀ x r', r = x :: r' → 0 < turn x y z) ∧ Stk A B S (y :: r)
  | _ => True
theorem Stk.mono {S S' : List Pt} (hs : ∀ q ∈ S', q ∈ S) : ∀ {st : List Pt}, Stk A B S st → Stk A B S' st
  | [], _ => trivial
  | [_], _ => trivial
  | _ :: y :: r, h => ⟨h.1, fun q hq => h.2.1 q (hs q hq), h.2.2.1, Stk.mono hs (st := y :: r) h.2.2.2⟩
theorem Stk.add {S : List Pt} {p : Pt} : ∀ {y : Pt} {r : List Pt}, Stk A B S (y :: r) → ht A B y < ht A B p → (∀ x r', r = x :: r' → 0 < turn x y p) → Stk A B (p :: S) (y :: r)
  | y, [], _, _, _ => trivial
  | y, x :: r, h, hp, hx => by
    have h1 := hx x r rfl
    refine ⟨h.1, fun q hq => ?_, h.2.2.1, Stk.add h.2.2.2 (Int.lt_trans h.1 hp) fun w r' e => ?_⟩
    · rcases List.mem_cons.mp hq with rfl | hq
      · exact Int.le_of_lt h1
      · exact h.2.1 q hq
    · subst e
      exact t1 (A := A) (B := B) h.2.2.2.1 h.1 (Int.lt_trans h.1 hp) (h.2.2.1 w r' rfl) (Int.le_of_lt h1)
theorem turn_self (a b : Pt) : turn a b b = 0 := by unfold turn; grind
theorem turn_self' (a b : Pt) : turn a b a = 0 := by unfold turn; grind
theorem turn_same (a b : Pt) : turn a a b = 0 := by unfold turn; grind
/-- what pop leaves -/
theorem pop_ok {S : List Pt} {p b : Pt} (hp : ∀ q ∈ S, ht A B q < ht A B p) (hb : ∀ q ∈ S, ht A B b ≤ ht A B q) : ∀ (r : List Pt) (t : Pt), Stk A B S (t :: r) → (∀ q ∈ t :: r, q ∈ S) → (t :: r).getLast? = some b →
    (∀ q ∈ S, ht A B t ≤ ht A B q → 0 ≤ turn t p q) →
    ∃ t' r', pop p (t :: r) = t' :: r' ∧ Stk A B (p :: S) (p :: t' :: r') ∧ (∀ q ∈ t' :: r', q ∈ S) ∧ (t' :: r').getLast? = some b
  | [], t, h, hs, hl, hP => by
    simp only [List.getLast?_singleton, Option.some.injEq] at hl
    subst hl
    refine ⟨t, [], rfl, ⟨hp t (hs t (.head _)), fun q hq => ?_, fun x r' e => (nomatch e), trivial⟩, hs, rfl⟩
    rcases List.mem_cons.mp hq with rfl | hq
    · rw [turn_self]; exact Int.le_refl _
    · exact hP q hq (hb q hq)
  | c :: r, t, h, hs, hl, hP => by
    have hts := hs t (.head _)
    have hcs := hs c (.tail _ (.head _))
    by_cases ht' : turn c t p ≤ 0
    · have e : pop p (t :: c :: r) = pop p (c :: r) := by rw [pop, if_pos ht']
      rw [e]
      refine pop_ok hp hb r c h.2.2.2 (fun q hq => hs q (.tail _ hq)) (by simpa using hl) fun q hq hqc => ?_
      rcases Int.le_total (ht A B t) (ht A B q) with hqt | hqt
      · exact t2 (A := A) (B := B) (b := c) (c := t) h.1 (hp t hts) (Int.le_of_lt (hp q hq)) ht' (hP q hq hqt)
      · exact t3 (A := A) (B := B) (b := c) (c := t) h.1 (hp t hts) hqc ht' (h.2.1 q hq)
    · have e : pop p (t :: c :: r) = t :: c :: r := by rw [pop, if_neg ht']
      have hpos : 0 < turn c t p := by omega
      refine ⟨t, c :: r, e, ⟨hp t hts, fun q hq => ?_, fun x r' e => ?_, Stk.add h (hp t hts) fun x r' e => ?_⟩, hs, hl⟩
      · rcases List.mem_cons.mp hq with rfl | hq
        · rw [turn_self]; exact Int.le_refl _
        · rcases Int.le_total (ht A B t) (ht A B q) with hqt | hqt
          · exact hP q hq hqt
          · exact t4 (A := A) (B := B) h.1 (hp t hts) hqt (Int.le_of_lt hpos) (h.2.1 q hq)
      · cases e; exact hpos
      · cases e; exact hpos
/-- what the fold has made of what it has seen -/
def Made (A B : Int) (S : List Pt) (b : Pt) (st : List Pt) : Prop :=
  ∃ t r, st = t :: r ∧ Stk A B S (t :: r) ∧ (∀ q ∈ t :: r, q ∈ S) ∧ (t :: r).getLast? = some b ∧ (∀ q ∈ S, ht A B b ≤ ht A B q) ∧ (∀ q ∈ S, ht A B q < ht A B t ∨ q = t)
theorem made_push {S : List Pt} {b p : Pt} {st : List Pt} (h : Made A B S b st) (hp : ∀ q ∈ S, ht A B q < ht A B p) : Made A B (p :: S) b (push st p) := by
  obtain ⟨t, r, rfl, h1, h2, h3, h4, h5⟩ := h
  obtain ⟨t', r', e, k1, k2, k3⟩ := pop_ok hp h4 r t h1 h2 h3 fun q hq hqt => by
    rcases h5 q hq with h | rfl
    · omega
    · rw [turn_self']; exact Int.le_refl _
  refine ⟨p, t' :: r', by rw [push, e], k1, fun q hq => ?_, by simpa using k3, fun q hq => ?_, fun q hq => ?_⟩
  · rcases List.mem_cons.mp hq with rfl | hq
    · exact .head _
    · exact .tail _ (k2 q hq)
  · rcases List.mem_cons.mp hq with rfl | hq
    · have hbS : b ∈ S := h2 b (List.mem_of_getLast? h3)
      exact Int.le_of_lt (hp b hbS)
    · exact h4 q hq
  · rcases List.mem_cons.mp hq with rfl | hq
    · exact .inr rfl
    · exact .inl (hp q hq)
theorem made_fold {b : Pt} : ∀ (rest S : List Pt) (st : List Pt), Made A B S b st → rest.Pairwise (fun x y => ht A B x < ht A B y) → (∀ q ∈ S, ∀ p ∈ rest, ht A B q < ht A B p) → Made A B (rest.reverse ++ S) b (rest.foldl push st)
  | [], S, st, h, _, _ => h
  | p :: rest, S, st, h, hr, hs => by
    rw [List.pairwise_cons] at hr
    have := made_fold rest (p :: S) (push st p) (made_push h fun q hq => hs q hq p (.head _)) hr.2 fun q hq x hx => by
      rcases List.mem_cons.mp hq with rfl | hq
      · exact hr.1 x hx
      · exact hs q hq x (.tail _ hx)
    rw [List.reverse_cons, List.append_assoc]
    exact this
/-- the chain of a list sorted by height -/
theorem chain_made {b : Pt} {os : List Pt} (h : (b :: os).Pairwise (fun x y => ht A B x < ht A B y)) : Made A B (b :: os) b ((b :: os).foldl push []) := by
  rw [List.pairwise_cons] at h
  have h0 : Made A B [b] b (push [] b) := ⟨b, [], rfl, trivial, fun q hq => hq, rfl, fun q hq => by rw [List.mem_singleton.mp hq]; exact Int.le_refl _, fun q hq => .inr (List.mem_singleton.mp hq)⟩
  have := made_fold os [b] (push [] b) h0 h.2 fun q hq p hp => by rw [List.mem_singleton.mp hq]; exact h.1 p hp
  obtain ⟨t, r, e, k1, k2, k3, k4, k5⟩ := this
  have hm : ∀ q, q ∈ os.reverse ++ [b] ↔ q ∈ b :: os := by intro q; simp [or_comm]
  exact ⟨t, r, e, k1.mono fun q hq => (hm q).mpr hq, fun q hq => (hm q).mp (k2 q hq), k3, fun q hq => k4 q ((hm q).mpr hq), fun q hq => k5 q ((hm q).mpr hq)⟩
end
end Mine

/- M3 -/
namespace Mine
open PySem
section
variable {A B : Int}
theorem stk_tail {S : List Pt} {z y : Pt} {r : List Pt} (h : Stk A B S (z :: y :: r)) : Stk A B S (y :: r) := h.2.2.2
theorem stk_tl {S : List Pt} {z : Pt} {r : List Pt} (h : Stk A B S (z :: r)) : Stk A B S r := by
  cases r with
  | nil => trivial
  | cons y r => exact h.2.2.2
theorem stk_last {S : List Pt} {b : Pt} : ∀ {r : List Pt} {z y : Pt}, Stk A B S (z :: y :: r) → (z :: y :: r).getLast? = some b → ht A B b < ht A B z
  | [], z, y, h, hl => by
    simp only [List.getLast?_cons_cons, List.getLast?_singleton, Option.some.injEq] at hl
    subst hl
    exact h.1
  | x :: r, z, y, h, hl => Int.lt_trans (stk_last (r := r) h.2.2.2 (by simpa using hl)) h.1
theorem stk_lt {S : List Pt} {z : Pt} : ∀ {r : List Pt}, Stk A B S (z :: r) → ∀ q ∈ r, ht A B q < ht A B z
  | [], _, q, hq => nomatch hq
  | y :: r, h, q, hq => by
    rcases List.mem_cons.mp hq with rfl | hq
    · exact h.1
    · exact Int.lt_trans (stk_lt h.2.2.2 q hq) h.1
theorem stk_ge {S : List Pt} {b z : Pt} {r : List Pt} (h : Stk A B S (z :: r)) (hl : (z :: r).getLast? = some b) : ∀ q ∈ z :: r, ht A B b ≤ ht A B q := by
  induction r generalizing z with
  | nil =>
    intro q hq
    simp only [List.getLast?_singleton, Option.some.injEq] at hl
    subst hl
    rw [List.mem_singleton.mp hq]
    exact Int.le_refl _
  | cons y r ih =>
    intro q hq
    have hl' : (y :: r).getLast? = some b := by simpa using hl
    have k := ih h.2.2.2 hl'
    rcases List.mem_cons.mp hq with rfl | hq
    · exact Int.le_of_lt (Int.lt_of_le_of_lt (k y (.head _)) h.1)
    · exact k q hq
theorem same_of {c d t : Pt} (h0 : turn c t d = 0) (h1 : ht A B c = ht A B d) (h2 : ht A B c < ht A B t) : c = d := by
  have e1 : (ht A B t - ht A B c) * (d.1 - c.1) = 0 := by
    have : (ht A B t - ht A B c) * (d.1 - c.1) = (t.1 - c.1) * (ht A B d - ht A B c) - B * turn c t d := by unfold ht turn; grind
    rw [this, h0, h1]; grind
  have e2 : (ht A B t - ht A B c) * (d.2 - c.2) = 0 := by
    have : (ht A B t - ht A B c) * (d.2 - c.2) = (t.2 - c.2) * (ht A B d - ht A B c) + A * turn c t d := by unfold ht turn; grind
    rw [this, h0, h1]; grind
  have hne : ht A B t - ht A B c ≠ 0 := by omega
  have f1 : d.1 - c.1 = 0 := by rcases Int.mul_eq_zero.mp e1 with h | h <;> omega
  have f2 : d.2 - c.2 = 0 := by rcases Int.mul_eq_zero.mp e2 with h | h <;> omega
  exact Prod.ext (by omega) (by omega)
theorem no_near {e c d t : Pt} (h0 : turn c t d = 0) (h1 : ht A B c < ht A B d) (h2 : ht A B d < ht A B t) (h3 : 0 < turn e d t) (h4 : 0 ≤ turn e d c) : False := by
  have e1 : turn e d t * (ht A B d - ht A B c) + turn e d c * (ht A B t - ht A B d) = 0 := by
    have := four A B e c d t
    have := fsum e c d t
    have := tswap' c t d
    have := tswap' e d c
    grind
  have m1 := Int.mul_pos h3 (show 0 < ht A B d - ht A B c by omega)
  have m2 := Int.mul_nonneg h4 (show 0 ≤ ht A B t - ht A B d by omega)
  omega
/-- a chain is told by its ends and what lies left of it -/
theorem stk_unique {S₁ S₂ : List Pt} {b : Pt} : ∀ (st₁ st₂ : List Pt), Stk A B S₁ st₁ → Stk A B S₂ st₂ → (∀ q ∈ st₂, q ∈ S₁) → (∀ q ∈ st₁, q ∈ S₂) → st₁.head? = st₂.head? → st₁.getLast? = some b → st₂.getLast? = some b → st₁ = st₂
  | [], st₂, _, _, _, _, _, hl, _ => by simp at hl
  | _ :: _, [], _, _, _, _, _, _, hl => by simp at hl
  | [t], [t'], _, _, _, _, hh, _, _ => by simpa using hh
  | [t], t' :: d :: r', _, k2, _, _, hh, hl1, hl2 => by
    simp only [List.head?_cons, Option.some.injEq] at hh
    subst hh
    simp only [List.getLast?_singleton, Option.some.injEq] at hl1
    subst hl1
    exact absurd (stk_last k2 hl2) (Int.lt_irrefl _)
  | t :: c :: r, [t'], k1, _, _, _, hh, hl1, hl2 => by
    simp only [List.head?_cons, Option.some.injEq] at hh
    subst hh
    simp only [List.getLast?_singleton, Option.some.injEq] at hl2
    subst hl2
    exact absurd (stk_last k1 hl1) (Int.lt_irrefl _)
  | t :: c :: r, t' :: d :: r', k1, k2, s1, s2, hh, hl1, hl2 => by
    simp only [List.head?_cons, Option.some.injEq] at hh
    subst hh
    have hl1' : (c :: r).getLast? = some b := by simpa using hl1
    have hl2' : (d :: r').getLast? = some b := by simpa using hl2
    have a1 := k1.2.1 d (s1 d (.tail _ (.head _)))
    have a2 := k2.2.1 c (s2 c (.tail _ (.head _)))
    have h0 : turn c t d = 0 := by
      have := tcyc c d t
      have := tcyc d t c
      have := tswap' c t d
      have := tswap' c d t
      omega
    have h0' : turn d t c = 0 := by
      have := tcyc c d t
      have := tcyc d t c
      have := tswap' c t d
      have := tswap' c d t
      omega
    have e : c = d := by
      rcases Int.lt_trichotomy (ht A B c) (ht A B d) with h | h | h
      · exfalso
        cases r' with
        | nil =>
          simp only [List.getLast?_singleton, Option.some.injEq] at hl2'
          subst hl2'
          have := stk_ge k1.2.2.2 hl1' c (.head _)
          omega
        | cons x r' => exact no_near (A := A) (B := B) h0 h k2.1 (k2.2.2.1 x r' rfl) (k2.2.2.2.2.1 c (s2 c (.tail _ (.head _))))
      · exact same_of h0 h k1.1
      · exfalso
        cases r with
        | nil =>
          simp only [List.getLast?_singleton, Option.some.injEq] at hl1'
          subst hl1'
          have := stk_ge k2.2.2.2 hl2' d (.head _)
          omega
        | cons x r => exact no_near (A := A) (B := B) h0' h k1.1 (k1.2.2.1 x r rfl) (k1.2.2.2.2.1 d (s1 d (.tail _ (.head _))))
    subst e
    rw [stk_unique (c :: r) (c :: r') k1.2.2.2 k2.2.2.2 (fun q hq => s1 q (.tail _ hq)) (fun q hq => s2 q (.tail _ hq)) rfl hl1' hl2']
end
end Mine

/- M4 -/
namespace Mine
open PySem
theorem ht_neg (A B : Int) (p : Pt) : ht (-A) (-B) p = - ht A B p := by unfold ht; grind
theorem plt_ht {a b : Pt} (ha : Bd a) (hb : Bd b) : pltI a b = true ↔ ht 1000 1 a < ht 1000 1 b := by
  obtain ⟨a1, a2⟩ := a
  obtain ⟨b1, b2⟩ := b
  simp only [pltI, ht, Bd, Bool.or_eq_true, Bool.and_eq_true, decide_eq_true_eq] at *
  omega
theorem ht_inj {a b : Pt} (ha : Bd a) (hb : Bd b) (h : ht 1000 1 a = ht 1000 1 b) : a = b := by
  obtain ⟨a1, a2⟩ := a
  obtain ⟨b1, b2⟩ := b
  simp only [ht, Bd] at *
  exact Prod.ext (by simp only; omega) (by simp only; omega)
/-- both chains of a set of points -/
structure Two (ps : List Pt) (b t : Pt) (r r2 : List Pt) : Prop where
  ring : ring ps = r.reverse ++ r2.reverse
  lo : Stk 1000 1 ps (t :: r)
  hi : Stk (-1000) (-1) ps (b :: r2)
  los : ∀ q ∈ t :: r, q ∈ ps
  his : ∀ q ∈ b :: r2, q ∈ ps
  lol : (t :: r).getLast? = some b
  hil : (b :: r2).getLast? = some t
  mn : ∀ q ∈ ps, ht 1000 1 b ≤ ht 1000 1 q
  mx : ∀ q ∈ ps, ht 1000 1 q ≤ ht 1000 1 t
  lt : ht 1000 1 b < ht 1000 1 t
theorem two_chains {ps : List Pt} (hn : ps.Nodup) (hb : ∀ p ∈ ps, Bd p) (h2 : 2 ≤ ps.length) : ∃ b t r r2, Two ps b t r r2 := by
  obtain ⟨o1, o2, o3⟩ := ordr_spec hn
  have ob : ∀ p ∈ ordr ps, Bd p := fun p hp => hb p ((o2 p).mp hp)
  have os : (ordr ps).Pairwise (fun x y => ht 1000 1 x < ht 1000 1 y) := o1.imp_of_mem fun {x y} hx hy h => (plt_ht (ob x hx) (ob y hy)).mp h
  have or' : (ordr ps).reverse.Pairwise (fun x y => ht (-1000) (-1) x < ht (-1000) (-1) y) := by
    rw [List.pairwise_reverse]
    exact os.imp fun {x y} h => by rw [ht_neg, ht_neg]; omega
  have mo : ∀ q, q ∈ (ordr ps).reverse ↔ q ∈ ps := fun q => by rw [List.mem_reverse]; exact o2 q
  have hr : Mine.ring ps = half (ordr ps) ++ half (ordr ps).reverse := by
    unfold Mine.ring
    rw [if_neg (by omega)]
  cases e1 : ordr ps with
  | nil => rw [e1] at o3; simp at o3; omega
  | cons b os' =>
    cases e2 : (ordr ps).reverse with
    | nil => rw [List.reverse_eq_nil_iff] at e2; rw [e2] at o3; simp at o3; omega
    | cons t ot =>
      have m1 : ∀ q, q ∈ b :: os' ↔ q ∈ ps := fun q => e1 ▸ o2 q
      have m2 : ∀ q, q ∈ t :: ot ↔ q ∈ ps := fun q => e2 ▸ mo q
      obtain ⟨t1, r, f1, k1, k2, k3, k4, k5⟩ := chain_made (e1 ▸ os)
      obtain ⟨b1, r2, g1, l1, l2, l3, l4, l5⟩ := chain_made (e2 ▸ or')
      have tp : t ∈ ps := (m2 t).mp (.head _)
      have bp : b ∈ ps := (m1 b).mp (.head _)
      have et : t1 = t := by
        rcases k5 t ((m1 t).mpr tp) with h | h
        · have := l4 t1 ((m2 t1).mpr ((m1 t1).mp (k2 t1 (.head _))))
          rw [ht_neg, ht_neg] at this
          omega
        · exact h.symm
      have eb : b1 = b := by
        rcases l5 b ((m2 b).mpr bp) with h | h
        · have := k4 b1 ((m1 b1).mpr ((m2 b1).mp (l2 b1 (.head _))))
          rw [ht_neg, ht_neg] at h
          omega
        · exact h.symm
      subst et eb
      refine ⟨b1, t1, r, r2, ?_, k1.mono fun q hq => (m1 q).mpr hq, l1.mono fun q hq => (m2 q).mpr hq, fun q hq => (m1 q).mp (k2 q hq), fun q hq => (m2 q).mp (l2 q hq), k3, l3, fun q hq => k4 q ((m1 q).mpr hq), fun q hq => ?_, ?_⟩
      · rw [hr, half, half, e2, e1, f1, g1]
        rfl
      · have := l4 q ((m2 q).mpr hq)
        rw [ht_neg, ht_neg] at this
        omega
      · cases os' with
        | nil => rw [e1] at o3; simp at o3; omega
        | cons x os' =>
          have hx := (List.pairwise_cons.mp (e1 ▸ os)).1 x (.head _)
          rcases k5 x (.tail _ (.head _)) with h | h
          · omega
          · rw [← h]; exact hx
section
variable {ps : List Pt} {b t : Pt} {r r2 : List Pt}
theorem Two.rne (T : Two ps b t r r2) : r ≠ [] := by
  intro e
  have h := T.lol
  rw [e] at h
  simp only [List.getLast?_singleton, Option.some.injEq] at h
  have := T.lt
  rw [h] at this
  omega
theorem Two.r2ne (T : Two ps b t r r2) : r2 ≠ [] := by
  intro e
  have h := T.hil
  rw [e] at h
  simp only [List.getLast?_singleton, Option.some.injEq] at h
  have := T.lt
  rw [h] at this
  omega
theorem Two.bIn (T : Two ps b t r r2) : b ∈ r := by
  have h := T.lol
  cases e : r with
  | nil => exact absurd e T.rne
  | cons x r' =>
    rw [e] at h
    exact List.mem_of_getLast? (by simpa using h)
theorem Two.tIn (T : Two ps b t r r2) : t ∈ r2 := by
  have h := T.hil
  cases e : r2 with
  | nil => exact absurd e T.r2ne
  | cons x r' =>
    rw [e] at h
    exact List.mem_of_getLast? (by simpa using h)
theorem Two.mem (T : Two ps b t r r2) (q : Pt) : q ∈ Mine.ring ps ↔ q ∈ r ∨ q ∈ r2 := by
  rw [T.ring]; simp
theorem Two.sub (T : Two ps b t r r2) : ∀ q ∈ Mine.ring ps, q ∈ ps := fun q hq => by
  rcases (T.mem q).mp hq with h | h
  · exact T.los q (.tail _ h)
  · exact T.his q (.tail _ h)
/-- the ring is told by its chains -/
theorem ring_eq {ps' : List Pt} (T : Two ps b t r r2) (hn : ps'.Nodup) (hb : ∀ p ∈ ps', Bd p) (hs : ∀ q ∈ Mine.ring ps, q ∈ ps') (lo : Stk 1000 1 ps' (t :: r)) (hi : Stk (-1000) (-1) ps' (b :: r2))
    (mn : ∀ q ∈ ps', ht 1000 1 b ≤ ht 1000 1 q) (mx : ∀ q ∈ ps', ht 1000 1 q ≤ ht 1000 1 t) : Mine.ring ps' = Mine.ring ps := by
  have bm : b ∈ ps' := hs b ((T.mem b).mpr (.inl T.bIn))
  have tm : t ∈ ps' := hs t ((T.mem t).mpr (.inr T.tIn))
  have h2 : 2 ≤ ps'.length := by
    match ps', bm, tm with
    | [x], bm, tm =>
      have e : b = t := (List.mem_singleton.mp bm).trans (List.mem_singleton.mp tm).symm
      have := T.lt
      rw [e] at this
      omega
    | _ :: _ :: _, _, _ => simp
  obtain ⟨b', t', r', r2', T'⟩ := two_chains hn hb h2
  have t'm : t' ∈ ps' := T'.los t' (.head _)
  have b'm : b' ∈ ps' := T'.his b' (.head _)
  have et : t = t' := ht_inj (hb t tm) (hb t' t'm) (by have := mx t' t'm; have := T'.mx t tm; omega)
  have eb : b = b' := ht_inj (hb b bm) (hb b' b'm) (by have := mn b' b'm; have := T'.mn b bm; omega)
  subst et eb
  have u1 := stk_unique (t :: r) (t :: r') lo T'.lo T'.los (fun q hq => by
    rcases List.mem_cons.mp hq with rfl | hq
    · exact tm
    · exact hs q ((T.mem q).mpr (.inl hq))) rfl T.lol T'.lol
  have u2 := stk_unique (b :: r2) (b :: r2') hi T'.hi T'.his (fun q hq => by
    rcases List.mem_cons.mp hq with rfl | hq
    · exact bm
    · exact hs q ((T.mem q).mpr (.inr hq))) rfl T.hil T'.hil
  rw [T.ring, T'.ring, (List.cons.inj u1).2, (List.cons.inj u2).2]
theorem ring_ring (T : Two ps b t r r2) (hb : ∀ p ∈ ps, Bd p) (hn : (Mine.ring ps).Nodup) : Mine.ring (Mine.ring ps) = Mine.ring ps :=
  ring_eq T hn (fun p hp => hb p (T.sub p hp)) (fun q hq => hq) (T.lo.mono T.sub) (T.hi.mono T.sub) (fun q hq => T.mn q (T.sub q hq)) (fun q hq => T.mx q (T.sub q hq))
theorem stk_mid {A B : Int} {S : List Pt} {u v m : Pt} (hu : u ∈ S) (hv : v ∈ S) (h1 : 2 * m.1 = u.1 + v.1) (h2 : 2 * m.2 = u.2 + v.2) : ∀ {st : List Pt}, Stk A B S st → Stk A B (S ++ [m]) st
  | [], _ => trivial
  | [_], _ => trivial
  | z :: y :: r, h => by
    refine ⟨h.1, fun q hq => ?_, h.2.2.1, stk_mid hu hv h1 h2 (st := y :: r) h.2.2.2⟩
    rcases List.mem_append.mp hq with hq | hq
    · exact h.2.1 q hq
    · rw [List.mem_singleton.mp hq]
      have a1 := h.2.1 u hu
      have a2 := h.2.1 v hv
      have : 2 * turn y z m = turn y z u + turn y z v := by unfold turn; grind
      omega
theorem ring_mid {m u v : Pt} (T : Two ps b t r r2) (hn : ps.Nodup) (hb : ∀ p ∈ ps, Bd p) (hu : u ∈ ps) (hv : v ∈ ps) (bm : Bd m) (h1 : 2 * m.1 = u.1 + v.1) (h2 : 2 * m.2 = u.2 + v.2) (hm : m ∉ ps) : Mine.ring (ps ++ [m]) = Mine.ring ps := by
  have e : 2 * ht 1000 1 m = ht 1000 1 u + ht 1000 1 v := by unfold ht; grind
  refine ring_eq T ?_ (fun p hp => ?_) (fun q hq => List.mem_append_left _ (T.sub q hq)) (stk_mid hu hv h1 h2 T.lo) (stk_mid hu hv h1 h2 T.hi) (fun q hq => ?_) (fun q hq => ?_)
  · rw [List.nodup_append]
    refine ⟨hn, by simp, ?_⟩
    intro x hx y hy e
    rw [List.mem_singleton.mp hy] at e
    exact hm (e ▸ hx)
  · rcases List.mem_append.mp hp with hp | hp
    · exact hb p hp
    · rw [List.mem_singleton.mp hp]; exact bm
  · rcases List.mem_append.mp hq with hq | hq
    · exact T.mn q hq
    · rw [List.mem_singleton.mp hq]
      have := T.mn u hu; have := T.mn v hv; omega
  · rcases List.mem_append.mp hq with hq | hq
    · exact T.mx q hq
    · rw [List.mem_singleton.mp hq]
      have := T.mx u hu; have := T.mx v hv; omega
end
end Mine

/- M5 -/
namespace Mine
open PySem
/-- a path (latest first): all of S lies left of each edge, turns are strict -/
def Lp (S : List Pt) : List Pt → Prop
  | z :: y :: r => (∀ q ∈ S, 0 ≤ turn y z q) ∧ (∀ x r', r = x :: r' → 0 < turn x y z) ∧ Lp S (y :: r)
  | _ => True
theorem Stk.lp {A B : Int} {S : List Pt} : ∀ {st : List Pt}, Stk A B S st → Lp S st
  | [], _ => trivial
  | [_], _ => trivial
  | _ :: y :: r, h => ⟨h.2.1, h.2.2.1, Stk.lp (st := y :: r) h.2.2.2⟩
theorem stk_suffix {A B : Int} {S : List Pt} : ∀ (u : List Pt) {st : List Pt}, Stk A B S (u ++ st) → Stk A B S st
  | [], _, h => h
  | _ :: u, _, h => stk_suffix u (stk_tl h)
theorem Lp.join {S : List Pt} {t : Pt} {r : List Pt} : ∀ (u : List Pt), Lp S (u ++ [t]) → Lp S (t :: r) → (∀ u' w, u = u' ++ [w] → ∀ x r', r = x :: r' → 0 < turn x t w) → Lp S (u ++ t :: r)
  | [], _, h, _ => h
  | [z], h1, h2, hj => ⟨h1.1, fun x r' e => hj [] z rfl x r' e, h2⟩
  | z :: y :: u, h1, h2, hj => by
    refine ⟨h1.1, fun x r' e => ?_, Lp.join (y :: u) h1.2.2 h2 fun u' w e => hj (z :: u') w (by rw [e]; rfl)⟩
    cases u with
    | nil =>
      cases e
      exact h1.2.1 _ [] rfl
    | cons v u =>
      cases e
      exact h1.2.1 _ (u ++ [t]) rfl
theorem Lp.at1 {S : List Pt} {d : Pt} : ∀ {Z : List Pt}, Lp S Z → ∀ i, i + 1 < Z.length → ∀ q ∈ S, 0 ≤ turn (Z.getD (i + 1) d) (Z.getD i d) q
  | [], _, i, hi, _, _ => absurd hi (by simp)
  | [_], _, i, hi, _, _ => absurd hi (by simp)
  | _ :: _ :: _, h, 0, _, q, hq => h.1 q hq
  | _ :: y :: r, h, i + 1, hi, q, hq => Lp.at1 (Z := y :: r) h.2.2 i (by simpa using hi) q hq
theorem Lp.at2 {S : List Pt} {d : Pt} : ∀ {Z : List Pt}, Lp S Z → ∀ i, i + 2 < Z.length → 0 < turn (Z.getD (i + 2) d) (Z.getD (i + 1) d) (Z.getD i d)
  | [], _, i, hi => absurd hi (by simp)
  | [_], _, i, hi => absurd hi (by simp)
  | [_, _], _, i, hi => absurd hi (by simp)
  | _ :: _ :: x :: r, h, 0, _ => h.2.1 x r rfl
  | _ :: y :: x :: r, h, i + 1, hi => Lp.at2 (Z := y :: x :: r) h.2.2 i (by simpa using hi)
def NF (S : List Pt) : Prop := ∀ a ∈ S, ∀ b ∈ S, a ≠ b → ∃ q ∈ S, turn a b q ≠ 0
theorem corner {A B : Int} {S : List Pt} {a o c : Pt} (nf : NF S) (ha : a ∈ S) (ho : o ∈ S) (hc : c ∈ S) (h1 : ht A B a < ht A B o) (h2 : ht A B c < ht A B o) (e1 : ∀ q ∈ S, 0 ≤ turn a o q) (e2 : ∀ q ∈ S, 0 ≤ turn o c q) : 0 < turn a o c := by
  have h0 := e1 c hc
  rcases Int.lt_or_eq_of_le h0 with h | h
  · exact h
  · exfalso
    obtain ⟨q, hq, hne⟩ := nf a ha o ho (fun e => by rw [e] at h1; exact absurd h1 (Int.lt_irrefl _))
    have k1 := e1 q hq
    have k2 := e2 q hq
    have e : turn o c q * (ht A B o - ht A B a) + turn a o q * (ht A B o - ht A B c) = 0 := by
      have := four A B a o c q
      have := fsum a o c q
      grind
    have m1 := Int.mul_nonneg k2 (show 0 ≤ ht A B o - ht A B a by omega)
    have m2 := Int.mul_pos (show 0 < turn a o q by omega) (show 0 < ht A B o - ht A B c by omega)
    omega
theorem concat_of {l : List Pt} (h : l ≠ []) : ∃ l' z, l = l' ++ [z] := ⟨l.dropLast, l.getLast h, (List.dropLast_concat_getLast h).symm⟩
section
variable {ps : List Pt} {b t : Pt} {r r2 : List Pt}
theorem Two.h3 (T : Two ps b t r r2) (nf : NF ps) : 3 ≤ (Mine.ring ps).length := by
  rw [T.ring, List.length_append, List.length_reverse, List.length_reverse]
  cases e1 : r with
  | nil => exact absurd e1 T.rne
  | cons x r' =>
    cases e2 : r2 with
    | nil => exact absurd e2 T.r2ne
    | cons y r2' =>
      cases r' with
      | cons _ _ => simp only [List.length_cons]; omega
      | nil =>
        cases r2' with
        | cons _ _ => simp only [List.length_cons]; omega
        | nil =>
          exfalso
          have l1 := T.lol
          have l2 := T.hil
          have h1 := T.lo
          have h2 := T.hi
          rw [e1] at l1 h1
          rw [e2] at l2 h2
          simp only [List.getLast?_cons_cons, List.getLast?_singleton, Option.some.injEq] at l1 l2
          subst l1 l2
          have hlt := T.lt
          obtain ⟨q, hq, hne⟩ := nf _ (T.his _ (.head _)) _ (T.los _ (.head _)) (fun e => by rw [e] at hlt; exact absurd hlt (Int.lt_irrefl _))
          have k1 := h1.2.1 q hq
          have k2 := h2.2.1 q hq
          have := tswap x y q
          omega
theorem Two.nodup (T : Two ps b t r r2) : (Mine.ring ps).Nodup := by
  have pw : ∀ {A B : Int} {S : List Pt} {st : List Pt}, Stk A B S st → st.Pairwise (fun x y => ht A B y < ht A B x) := by
    intro A B S st
    induction st with
    | nil => intro _; exact .nil
    | cons z st ih => intro h; exact .cons (stk_lt h) (ih (stk_tl h))
  have nd : ∀ {A B : Int} {S : List Pt} {st : List Pt}, Stk A B S st → st.Nodup := fun h => (pw h).imp fun {x y} h e => by rw [e] at h; exact absurd h (Int.lt_irrefl _)
  rw [T.ring, List.nodup_append]
  have nr := (List.nodup_cons.mp (nd T.lo)).2
  have nr2 := (List.nodup_cons.mp (nd T.hi)).2
  refine ⟨List.pairwise_reverse.mpr (nr.imp Ne.symm), List.pairwise_reverse.mpr (nr2.imp Ne.symm), ?_⟩
  intro w hw w' hw' e
  subst e
  rw [List.mem_reverse] at hw hw'
  have wt : ht 1000 1 w < ht 1000 1 t := stk_lt T.lo w hw
  have hps := T.los w (.tail _ hw)
  obtain ⟨s1, s2, e1⟩ := List.append_of_mem hw
  obtain ⟨s3, s4, e2⟩ := List.append_of_mem hw'
  obtain ⟨s0, z, e3⟩ := concat_of (l := t :: s1) (by simp)
  obtain ⟨s5, z', e4⟩ := concat_of (l := b :: s3) (by simp)
  have q1 : t :: r = s0 ++ z :: w :: s2 := by rw [e1, ← List.cons_append, e3, List.append_assoc]; rfl
  have q2 : b :: r2 = s5 ++ z' :: w :: s4 := by rw [e2, ← List.cons_append, e4, List.append_assoc]; rfl
  have lo := T.lo
  have hi := T.hi
  have hil := T.hil
  rw [q1] at lo
  rw [q2] at hi hil
  have k1 := stk_suffix _ lo
  have k2 := stk_suffix _ hi
  have hz' : z' ∈ ps := T.his z' (by rw [q2]; simp)
  cases s4 with
  | nil =>
    rw [List.getLast?_append] at hil
    simp only [List.getLast?_cons_cons, List.getLast?_singleton, Option.some_or, Option.some.injEq] at hil
    rw [hil] at wt
    exact absurd wt (Int.lt_irrefl _)
  | cons x' s6 =>
    have hx' : x' ∈ ps := T.his x' (by rw [q2]; simp)
    have st := k2.2.2.1 x' s6 rfl
    have g1 := k2.1
    have g2 := k2.2.2.2.1
    rw [ht_neg, ht_neg] at g1 g2
    have := t1w (A := 1000) (B := 1) (a := z') (b := w) (c := z) (d := x') (by omega) k1.1 (by omega) (by rw [← tcyc]; exact k1.2.1 z' hz') (k1.2.1 x' hx')
    have e5 := tcyc z' w x'
    have e6 := tswap x' w z'
    have e7 := tcyc x' w z'
    have e8 := tswap' w z' x'
    omega
/-- the closed path -/
theorem Two.loop (T : Two ps b t r r2) (nf : NF ps) : Lp ps (b :: (Mine.ring ps).reverse) ∧ ∀ y1 y2 Z1 Z2, b :: (Mine.ring ps).reverse = Z1 ++ [y1, b] → b :: (Mine.ring ps).reverse = b :: y2 :: Z2 → 0 < turn y2 b y1 := by
  have er : (Mine.ring ps).reverse = r2 ++ r := by rw [T.ring]; simp
  have tps := T.los t (.head _)
  have bps := T.his b (.head _)
  obtain ⟨u, w, eu⟩ := concat_of (l := b :: r2) (by simp)
  have hw : w = t := by
    have := T.hil
    rw [eu] at this
    simpa using this
  subst hw
  have hi := T.hi
  have lo := T.lo
  rw [eu] at hi
  constructor
  · rw [er, ← List.cons_append, eu, List.append_assoc]
    show Lp ps (u ++ w :: r)
    refine Lp.join u hi.lp lo.lp ?_
    rintro u' v e x r' e2
    subst e
    rw [List.append_assoc] at hi
    have k1 := stk_suffix _ hi
    rw [e2] at lo
    have g1 := k1.1
    rw [ht_neg, ht_neg] at g1
    exact corner (A := 1000) (B := 1) nf (T.los x (by rw [e2]; simp)) tps (T.his v (by rw [eu]; simp)) lo.1 (by omega) lo.2.1 k1.2.1
  · intro y1 y2 Z1 Z2 h1 h2
    rw [er] at h1 h2
    -- the edge out of b
    obtain ⟨v, y3, ev⟩ := concat_of T.rne
    have hy3 : y3 = b := by
      have := T.lol
      rw [ev, ← List.cons_append, List.getLast?_append] at this
      simpa using this
    subst hy3
    obtain ⟨v', y4, ev'⟩ := concat_of (l := w :: v) (by simp)
    have q1 : w :: r = v' ++ [y4, y3] := by rw [ev, ← List.cons_append, ev', List.append_assoc]; rfl
    have e4 : y4 = y1 := by
      have : u ++ (v' ++ [y4, y3]) = Z1 ++ [y1, y3] := by
        rw [← q1, ← h1, ← List.cons_append, eu, List.append_assoc]; rfl
      have := congrArg List.reverse this
      simp only [List.reverse_append, List.reverse_cons, List.reverse_nil, List.nil_append, List.cons_append, List.cons.injEq, true_and] at this
      exact this.1
    subst e4
    have e5 : ∃ r2', r2 = y2 :: r2' := by
      cases e6 : r2 with
      | nil => exact absurd e6 T.r2ne
      | cons y r2' =>
        rw [e6] at h2
        simp only [List.cons_append, List.cons.injEq, true_and] at h2
        exact ⟨r2', by rw [h2.1]⟩
    obtain ⟨r2', e6⟩ := e5
    have hi2 := T.hi
    rw [e6] at hi2
    rw [q1] at lo
    have k1 := stk_suffix _ lo
    have g1 := k1.1
    exact corner (A := -1000) (B := -1) nf (T.his y2 (by rw [e6]; simp)) bps (T.los y4 (by rw [q1]; simp)) hi2.1 (by rw [ht_neg, ht_neg]; omega) hi2.2.1 k1.2.1
end
end Mine

/- M6 -/
namespace Mine
open PySem
structure Poly (ps rs : List Pt) : Prop where
  h3 : 3 ≤ rs.length
  c1 : ∀ k : Nat, k < rs.length → 0 < turn (atI rs ((k : Int) - 2)) (atI rs ((k : Int) - 1)) (atI rs (k : Int))
  c2 : ∀ k : Nat, k < rs.length → ∀ p ∈ ps, 0 ≤ turn (atI rs ((k : Int) - 1)) (atI rs (k : Int)) p
  sub : ∀ q ∈ rs, q ∈ ps
  nd : rs.Nodup
theorem atI_nat (rs : List Pt) (k : Nat) : atI rs (k : Int) = rs.getD k (0, 0) := by
  rw [atI, if_neg (by omega), Int.toNat_natCast]
theorem atI_neg (rs : List Pt) (k : Nat) (h : k < rs.length) : atI rs (-((k : Int) + 1)) = rs.getD (rs.length - 1 - k) (0, 0) := by
  rw [atI, if_pos (by omega)]
  congr 1
  omega
theorem getD_rev {rs : List Pt} {i : Nat} (h : i < rs.length) (d : Pt) : rs.reverse.getD i d = rs.getD (rs.length - 1 - i) d := by
  rw [List.getD_eq_getElem?_getD, List.getD_eq_getElem?_getD, List.getElem?_reverse h]
theorem poly_of {ps : List Pt} {b t : Pt} {r r2 : List Pt} (T : Two ps b t r r2) (nf : NF ps) : Poly ps (ring ps) := by
  have h3 := T.h3 nf
  obtain ⟨L, W⟩ := T.loop nf
  have hb0 : ∃ rs', ring ps = b :: rs' := by
    have h1 : (ring ps).reverse = r2 ++ r := by rw [T.ring]; simp
    obtain ⟨v, y, ev⟩ := concat_of T.rne
    have hy : y = b := by
      have := T.lol
      rw [ev, ← List.cons_append, List.getLast?_append] at this
      simpa using this
    subst hy
    exact ⟨v.reverse ++ r2.reverse, by rw [T.ring, ev]; simp⟩
  obtain ⟨rs', ers⟩ := hb0
  generalize hrs : ring ps = rs at *
  have key : ∀ k, k < rs.length → rs.getD k (0, 0) = (b :: rs.reverse).getD (rs.length - k) (0, 0) := by
    intro k hk
    obtain ⟨j, hj⟩ : ∃ j, rs.length - k = j + 1 := ⟨rs.length - k - 1, by omega⟩
    rw [hj, List.getD_cons_succ, getD_rev (by omega)]
    congr 1
    omega
  have hl : (b :: rs.reverse).length = rs.length + 1 := by simp
  have k0 : rs.getD 0 (0, 0) = (b :: rs.reverse).getD 0 (0, 0) := by rw [ers]; rfl
  have m1 : atI rs (-1) = rs.getD (rs.length - 1) (0, 0) := by
    have := atI_neg rs 0 (by omega)
    simpa using this
  have m2 : atI rs (-2) = rs.getD (rs.length - 2) (0, 0) := by
    have := atI_neg rs 1 (by omega)
    rw [show rs.length - 1 - 1 = rs.length - 2 by omega] at this
    exact this
  refine ⟨h3, fun k hk => ?_, fun k hk p hp => ?_, hrs ▸ T.sub, hrs ▸ T.nodup⟩
  · rcases Nat.lt_or_ge k 2 with h | h
    · have : k = 0 ∨ k = 1 := by omega
      rcases this with rfl | rfl
      · have := L.at2 (d := (0, 0)) 0 (by omega)
        show 0 < turn (atI rs (((0 : Nat) : Int) - 2)) (atI rs (((0 : Nat) : Int) - 1)) (atI rs ((0 : Nat) : Int))
        rw [atI_nat]
        show 0 < turn (atI rs (-2)) (atI rs (-1)) _
        rw [m1, m2, key _ (by omega), key _ (by omega), k0, show rs.length - (rs.length - 2) = 0 + 2 by omega, show rs.length - (rs.length - 1) = 0 + 1 by omega]
        exact this
      · show 0 < turn (atI rs (((1 : Nat) : Int) - 2)) (atI rs (((1 : Nat) : Int) - 1)) (atI rs ((1 : Nat) : Int))
        rw [atI_nat]
        show 0 < turn (atI rs (-1)) (atI rs ((0 : Nat) : Int)) _
        rw [m1, atI_nat]
        cases e1 : rs' with
        | nil => rw [ers, e1] at h3; simp at h3
        | cons y1 rs'' =>
          cases e2 : rs.reverse with
          | nil => rw [List.reverse_eq_nil_iff] at e2; rw [e2] at h3; simp at h3
          | cons y2 Z2 =>
            have g1 : rs.getD (rs.length - 1) (0, 0) = y2 := by
              have := getD_rev (rs := rs) (i := 0) (by omega) (0, 0)
              rw [e2] at this
              simpa using this.symm
            have g2 : rs.getD 0 (0, 0) = b := by rw [ers]; rfl
            have g3 : rs.getD 1 (0, 0) = y1 := by rw [ers, e1]; rfl
            rw [g1, g2, g3]
            exact W y1 y2 (b :: rs''.reverse) Z2 (by rw [ers, e1]; simp) (by rw [e2])
    · have e1 : (k : Int) - 2 = ((k - 2 : Nat) : Int) := by omega
      have e2 : (k : Int) - 1 = ((k - 1 : Nat) : Int) := by omega
      rw [e1, e2, atI_nat, atI_nat, atI_nat, key _ (by omega), key _ (by omega), key _ hk, show rs.length - (k - 2) = rs.length - k + 2 by omega, show rs.length - (k - 1) = rs.length - k + 1 by omega]
      exact L.at2 _ (by omega)
  · cases k with
    | zero =>
      show 0 ≤ turn (atI rs (-1)) (atI rs ((0 : Nat) : Int)) p
      rw [m1, atI_nat, key _ (by omega), k0, show rs.length - (rs.length - 1) = 0 + 1 by omega]
      exact L.at1 0 (by omega) p hp
    | succ k =>
      have e2 : ((k + 1 : Nat) : Int) - 1 = (k : Int) := by omega
      rw [e2, atI_nat, atI_nat, key _ (by omega), key _ hk, show rs.length - k = rs.length - (k + 1) + 1 by omega]
      exact L.at1 _ (by omega) p hp
end Mine

/- M7 -/
namespace Mine
open PySem
section
variable {ps rs : List Pt}
def asum (rs : List Pt) (q : Pt) : Nat → Int
  | 0 => 0
  | k + 1 => turn q (atI rs ((k : Int) - 1)) (atI rs (k : Int)) + asum rs q k
theorem area_asum (rs : List Pt) (st : Int) : ∀ k, areaTo rs st k = asum rs (atI rs st) k
  | 0 => rfl
  | k + 1 => by rw [areaTo, asum, area_asum rs st k]
theorem base_change (rs : List Pt) (q o : Pt) : ∀ k : Nat, asum rs q k + turn o q (atI rs ((k : Int) - 1)) = asum rs o k + turn o q (atI rs (-1))
  | 0 => by rw [asum, asum]; rfl
  | k + 1 => by
    have ih := base_change rs q o k
    have e : (((k + 1 : Nat) : Int) - 1) = (k : Int) := by omega
    rw [asum, asum, e]
    have := fsum o q (atI rs ((k : Int) - 1)) (atI rs (k : Int))
    omega
theorem asum_all (P : Poly ps rs) (q o : Pt) : asum rs q rs.length = asum rs o rs.length := by
  have h := base_change rs q o rs.length
  have e : atI rs ((rs.length : Int) - 1) = atI rs (-1) := by
    have h3 := P.h3
    have e1 : (rs.length : Int) - 1 = ((rs.length - 1 : Nat) : Int) := by omega
    have := atI_neg rs 0 (by omega)
    rw [e1, atI_nat]
    simpa using this.symm
  rw [e] at h
  omega
theorem asum_mono (P : Poly ps rs) {q : Pt} (hq : q ∈ ps) {j : Nat} : ∀ {k : Nat}, j ≤ k → k ≤ rs.length → asum rs q j ≤ asum rs q k
  | 0, h, _ => by
    have : j = 0 := by omega
    subst this
    exact Int.le_refl _
  | k + 1, h, hk => by
    rcases Nat.lt_or_ge j (k + 1) with h' | h'
    · have ih := asum_mono P hq (j := j) (k := k) (by omega) (by omega)
      have := P.c2 k (by omega) q hq
      have := tcyc q (atI rs ((k : Int) - 1)) (atI rs (k : Int))
      rw [asum]
      omega
    · have : j = k + 1 := by omega
      subst this
      exact Int.le_refl _
theorem atI_ps (P : Poly ps rs) {k : Nat} (hk : k < rs.length) : atI rs (k : Int) ∈ ps := P.sub _ (atI_mem (by omega) (by omega))
theorem tri_le (P : Poly ps rs) {i j k : Nat} (hij : i < j) (hjk : j < k) (hk : k < rs.length) (o : Pt) :
    turn (atI rs (i : Int)) (atI rs (j : Int)) (atI rs (k : Int)) ≤ asum rs o rs.length ∧ - turn (atI rs (i : Int)) (atI rs (j : Int)) (atI rs (k : Int)) ≤ asum rs o rs.length := by
  have mi := atI_ps P (k := i) (by omega)
  have mj := atI_ps P (k := j) (by omega)
  have mk := atI_ps P hk
  have es : ∀ y : Nat, (((y + 1 : Nat) : Int) - 1) = (y : Int) := fun y => by omega
  rw [asum_all P o (atI rs (i : Int))]
  generalize hI : atI rs (i : Int) = I at *
  generalize hJ : atI rs (j : Int) = J at *
  generalize hK : atI rs (k : Int) = K at *
  -- arcs seen from their own ends and from the third
  have a1 := asum_mono P mi (j := i + 1) (k := j + 1) (by omega) (by omega)
  have a2 := asum_mono P mk (j := i + 1) (k := j + 1) (by omega) (by omega)
  have a3 := asum_mono P mj (j := j + 1) (k := k + 1) (by omega) (by omega)
  have a4 := asum_mono P mi (j := j + 1) (k := k + 1) (by omega) (by omega)
  have a5 := asum_mono P mi (j := 0) (k := i + 1) (by omega) (by omega)
  have a6 := asum_mono P mi (j := k + 1) (k := rs.length) (by omega) (by omega)
  have b1 := base_change rs K I (i + 1)
  have b2 := base_change rs K I (j + 1)
  have b3 := base_change rs I J (j + 1)
  have b4 := base_change rs I J (k + 1)
  rw [es, hI] at b1
  rw [es, hJ] at b2 b3
  rw [es, hK] at b4
  rw [turn_self'] at b1
  have c1 := tswap' I K J
  have c2 := tswap J I K
  have c3 := turn_self' J I
  have z : asum rs I 0 = 0 := rfl
  omega
theorem poly_c11 (P : Poly ps rs) : ∀ k : Nat, k < rs.length → areaTo rs (k : Int) rs.length = areaTo rs 0 rs.length := fun k _ => by
  rw [area_asum, area_asum, asum_all P _ (atI rs 0)]
theorem poly_c12 (P : Poly ps rs) : ∀ x ∈ three3 rs rs.length, x ≤ areaTo rs 0 rs.length := by
  intro x hx
  rw [area_asum]
  simp only [three3, three2, three1, List.mem_flatMap, List.mem_map, List.mem_range] at hx
  obtain ⟨a, ha, b, hb, c, hc, rfl⟩ := hx
  have h := tri_le P hc hb ha (atI rs 0)
  have e1 := tcyc (atI rs (a : Int)) (atI rs (b : Int)) (atI rs (c : Int))
  have e2 := tswap (atI rs (b : Int)) (atI rs (c : Int)) (atI rs (a : Int))
  unfold tri ab
  split <;> omega
theorem poly_c13 (P : Poly ps rs) : ∃ x ∈ three3 rs rs.length, 0 < x := by
  have h3 := P.h3
  refine ⟨tri rs 2 1 0, ?_, ?_⟩
  · simp only [three3, three2, three1, List.mem_flatMap, List.mem_map, List.mem_range]
    exact ⟨2, by omega, 1, by omega, 0, by omega, rfl⟩
  · have := P.c1 2 (by omega)
    have e : turn (atI rs ((2 : Nat) : Int)) (atI rs ((1 : Nat) : Int)) (atI rs ((0 : Nat) : Int)) = - turn (atI rs ((0 : Nat) : Int)) (atI rs ((1 : Nat) : Int)) (atI rs ((2 : Nat) : Int)) := by
      have e1 := tcyc (atI rs ((0 : Nat) : Int)) (atI rs ((1 : Nat) : Int)) (atI rs ((2 : Nat) : Int))
      have e2 := tswap (atI rs ((1 : Nat) : Int)) (atI rs ((2 : Nat) : Int)) (atI rs ((0 : Nat) : Int))
      omega
    unfold tri ab
    rw [e]
    have h' : 0 < turn (atI rs ((0 : Nat) : Int)) (atI rs ((1 : Nat) : Int)) (atI rs ((2 : Nat) : Int)) := this
    split <;> omega
end
end Mine

/- M8 -/
namespace Mine
open PySem
section
variable {ps rs : List Pt}
theorem bary (q1 q2 q3 p x y : Pt) : turn q2 q3 p * turn x y q1 + turn q3 q1 p * turn x y q2 + turn q1 q2 p * turn x y q3 = turn q1 q2 q3 * turn x y p := by
  unfold turn
  grind
theorem sum3 (q1 q2 q3 p : Pt) : turn q2 q3 p + turn q3 q1 p + turn q1 q2 p = turn q1 q2 q3 := by
  unfold turn
  grind
theorem lin (A B : Int) (o1 o2 p x y : Pt) : (ht A B o2 - ht A B o1) * turn x y p = (ht A B o2 - ht A B p) * turn x y o1 + (ht A B p - ht A B o1) * turn x y o2 + turn o1 o2 p * (ht A B y - ht A B x) := by
  unfold turn ht
  grind
theorem corner_data (P : Poly ps rs) {p : Pt} (hp : p ∈ rs) : ∃ a c, (∀ q ∈ ps, 0 ≤ turn a p q) ∧ (∀ q ∈ ps, 0 ≤ turn p c q) ∧ 0 < turn a p c := by
  have h3 := P.h3
  obtain ⟨k, hk, rfl⟩ := List.getElem_of_mem hp
  have ek : rs[k] = atI rs (k : Int) := by rw [atI_nat]; simp [hk]
  rw [ek]
  by_cases h : k + 1 < rs.length
  · have e1 : (((k + 1 : Nat) : Int) - 1) = (k : Int) := by omega
    have e2 : (((k + 1 : Nat) : Int) - 2) = (k : Int) - 1 := by omega
    have g1 := P.c1 (k + 1) h
    have g2 := P.c2 (k + 1) h
    rw [e1] at g1 g2
    rw [e2] at g1
    exact ⟨_, _, P.c2 k hk, g2, g1⟩
  · have hkn : k = rs.length - 1 := by omega
    have g1 := P.c1 0 (by omega)
    have g2 := P.c2 0 (by omega)
    have m1 : atI rs (((0 : Nat) : Int) - 1) = atI rs (k : Int) := by
      have := atI_neg rs 0 (by omega)
      rw [atI_nat, hkn]
      simpa using this
    have m2 : atI rs (((0 : Nat) : Int) - 2) = atI rs ((k : Int) - 1) := by
      have := atI_neg rs 1 (by omega)
      have e : (k : Int) - 1 = ((k - 1 : Nat) : Int) := by omega
      rw [e, atI_nat, hkn]
      have e2 : rs.length - 1 - 1 = rs.length - 1 - 1 := rfl
      exact this
    rw [m1] at g1 g2
    rw [m2] at g1
    exact ⟨_, _, P.c2 k hk, g2, g1⟩
theorem support {a p c q : Pt} (h0 : 0 < turn a p c) (h1 : 0 ≤ turn a p q) (h2 : 0 ≤ turn p c q) (hne : q ≠ p) : 0 < turn a p q + turn p c q := by
  rcases Int.lt_or_eq_of_le (show 0 ≤ turn a p q + turn p c q by omega) with h | h
  · exact h
  · exfalso
    have z1 : turn a p q = 0 := by omega
    have z2 : turn p c q = 0 := by omega
    have e1 : turn a p c * (q.1 - p.1) = 0 := by
      have : turn a p c * (q.1 - p.1) = (c.1 - p.1) * turn a p q - (p.1 - a.1) * turn p c q := by unfold turn; grind
      rw [this, z1, z2]; grind
    have e2 : turn a p c * (q.2 - p.2) = 0 := by
      have : turn a p c * (q.2 - p.2) = (c.2 - p.2) * turn a p q - (p.2 - a.2) * turn p c q := by unfold turn; grind
      rw [this, z1, z2]; grind
    have f1 : q.1 - p.1 = 0 := by rcases Int.mul_eq_zero.mp e1 with h | h <;> omega
    have f2 : q.2 - p.2 = 0 := by rcases Int.mul_eq_zero.mp e2 with h | h <;> omega
    exact hne (Prod.ext (by omega) (by omega))
/-- a corner lies in no three's inside -/
theorem corner_out (P : Poly ps rs) {p q1 q2 q3 : Pt} (hp : p ∈ rs) (m1 : q1 ∈ ps) (m2 : q2 ∈ ps) (m3 : q3 ∈ ps) (n1 : q1 ≠ p) (n2 : q2 ≠ p) (n3 : q3 ≠ p) : within q1 q2 q3 p = false := by
  obtain ⟨a, c, g1, g2, g3⟩ := corner_data P hp
  have s1 := support g3 (g1 _ m1) (g2 _ m1) n1
  have s2 := support g3 (g1 _ m2) (g2 _ m2) n2
  have s3 := support g3 (g1 _ m3) (g2 _ m3) n3
  have b1 := bary q1 q2 q3 p a p
  have b2 := bary q1 q2 q3 p p c
  rw [turn_self] at b1
  rw [turn_self'] at b2
  have e : turn q2 q3 p * (turn a p q1 + turn p c q1) + turn q3 q1 p * (turn a p q2 + turn p c q2) + turn q1 q2 p * (turn a p q3 + turn p c q3) = 0 := by grind
  have sm := sum3 q1 q2 q3 p
  cases hw : within q1 q2 q3 p with
  | false => rfl
  | true =>
    exfalso
    simp only [within, Bool.and_eq_true, Bool.or_eq_true, decide_eq_true_eq] at hw
    obtain ⟨h0, h | h⟩ := hw
    · obtain ⟨t1, t2, t3⟩ := h
      have k1 := Int.mul_nonneg t2 (Int.le_of_lt s1)
      have k2 := Int.mul_nonneg t3 (Int.le_of_lt s2)
      have k3 := Int.mul_nonneg t1 (Int.le_of_lt s3)
      have z1 : turn q2 q3 p * (turn a p q1 + turn p c q1) = 0 := by omega
      have z2 : turn q3 q1 p * (turn a p q2 + turn p c q2) = 0 := by omega
      have z3 : turn q1 q2 p * (turn a p q3 + turn p c q3) = 0 := by omega
      rcases Int.mul_eq_zero.mp z1 with y1 | y1 <;> rcases Int.mul_eq_zero.mp z2 with y2 | y2 <;> rcases Int.mul_eq_zero.mp z3 with y3 | y3 <;> omega
    · obtain ⟨t1, t2, t3⟩ := h
      have k1 := Int.mul_nonpos_of_nonpos_of_nonneg t2 (Int.le_of_lt s1)
      have k2 := Int.mul_nonpos_of_nonpos_of_nonneg t3 (Int.le_of_lt s2)
      have k3 := Int.mul_nonpos_of_nonpos_of_nonneg t1 (Int.le_of_lt s3)
      have z1 : turn q2 q3 p * (turn a p q1 + turn p c q1) = 0 := by omega
      have z2 : turn q3 q1 p * (turn a p q2 + turn p c q2) = 0 := by omega
      have z3 : turn q1 q2 p * (turn a p q3 + turn p c q3) = 0 := by omega
      rcases Int.mul_eq_zero.mp z1 with y1 | y1 <;> rcases Int.mul_eq_zero.mp z2 with y2 | y2 <;> rcases Int.mul_eq_zero.mp z3 with y3 | y3 <;> omega
/-- a corner lies on no line between two others -/
theorem corner_mid (P : Poly ps rs) {p o1 o2 : Pt} (hp : p ∈ rs) (m1 : o1 ∈ ps) (m2 : o2 ∈ ps) (h1 : ht 1000 1 o1 < ht 1000 1 p) (h2 : ht 1000 1 p < ht 1000 1 o2) : turn o1 o2 p ≠ 0 := by
  intro h0
  obtain ⟨a, c, g1, g2, g3⟩ := corner_data P hp
  have s1 := support g3 (g1 _ m1) (g2 _ m1) (fun e => by rw [e] at h1; omega)
  have s2 := support g3 (g1 _ m2) (g2 _ m2) (fun e => by rw [e] at h2; omega)
  have b1 := lin 1000 1 o1 o2 p a p
  have b2 := lin 1000 1 o1 o2 p p c
  rw [turn_self, h0] at b1
  rw [turn_self', h0] at b2
  have e : (ht 1000 1 o2 - ht 1000 1 p) * (turn a p o1 + turn p c o1) + (ht 1000 1 p - ht 1000 1 o1) * (turn a p o2 + turn p c o2) = 0 := by grind
  have k1 := Int.mul_pos (show 0 < ht 1000 1 o2 - ht 1000 1 p by omega) s1
  have k2 := Int.mul_pos (show 0 < ht 1000 1 p - ht 1000 1 o1 by omega) s2
  omega
/-- three corners are on no line -/
theorem no_line (P : Poly ps rs) (hb : ∀ p ∈ ps, Bd p) {x y z : Pt} (hx : x ∈ rs) (hy : y ∈ rs) (hz : z ∈ rs) (nxy : x ≠ y) (nyz : y ≠ z) (nxz : x ≠ z) : turn x y z ≠ 0 := by
  intro h0
  have bx := hb x (P.sub x hx)
  have by' := hb y (P.sub y hy)
  have bz := hb z (P.sub z hz)
  have e1 := tcyc x y z
  have e2 := tcyc y z x
  have e3 := tswap x y z
  have e4 := tswap' x y z
  have e5 := tswap' z x y
  have dx : ht 1000 1 x ≠ ht 1000 1 y := fun e => nxy (ht_inj bx by' e)
  have dy : ht 1000 1 y ≠ ht 1000 1 z := fun e => nyz (ht_inj by' bz e)
  have dz : ht 1000 1 x ≠ ht 1000 1 z := fun e => nxz (ht_inj bx bz e)
  have px := P.sub x hx
  have py := P.sub y hy
  have pz := P.sub z hz
  rcases Int.lt_or_gt_of_ne dx with a | a <;> rcases Int.lt_or_gt_of_ne dy with b | b <;> rcases Int.lt_or_gt_of_ne dz with c | c
  · exact corner_mid P hy px pz a b (by have := tswap' x z y; omega)
  · omega
  · exact corner_mid P hz px py c b (by omega)
  · exact corner_mid P hx pz py c a (by have := tcyc x z y; have := tswap' x z y; have := tcyc z y x; omega)
  · exact corner_mid P hx py pz a c (by omega)
  · exact corner_mid P hz py px b c (by have := tcyc z y x; have := tcyc y x z; have := tswap x y z; omega)
  · omega
  · exact corner_mid P hy pz px b a (by omega)
theorem ivt (s : Nat → Int) : ∀ m : Nat, 2 ≤ m → 0 ≤ s 1 → s m ≤ 0 → ∃ k, 1 ≤ k ∧ k < m ∧ 0 ≤ s k ∧ s (k + 1) ≤ 0
  | 0, h, _, _ => absurd h (by omega)
  | 1, h, _, _ => absurd h (by omega)
  | m + 2, _, h1, h2 => by
    by_cases h : 0 ≤ s (m + 1)
    · exact ⟨m + 1, by omega, by omega, h, h2⟩
    · cases m with
      | zero => exact absurd h1 h
      | succ m =>
        obtain ⟨k, a, b, c, d⟩ := ivt s (m + 2) (by omega) h1 (Int.le_of_lt (Int.not_le.mp h))
        exact ⟨k, a, by omega, c, d⟩
/-- a point that is no corner lies in three corners' inside -/
theorem fan (P : Poly ps rs) (hb : ∀ p ∈ ps, Bd p) {p : Pt} (hp : p ∈ ps) (hn : p ∉ rs) : ∃ x ∈ rs, ∃ y ∈ rs, ∃ z ∈ rs, x ≠ y ∧ y ≠ z ∧ x ≠ z ∧ within x y z p = true := by
  have h3 := P.h3
  have s1 := P.c2 1 (by omega) p hp
  have sn := P.c2 0 (by omega) p hp
  have m1 : atI rs (((0 : Nat) : Int) - 1) = atI rs ((rs.length - 1 : Nat) : Int) := by
    have := atI_neg rs 0 (by omega)
    rw [atI_nat]
    simpa using this
  rw [m1] at sn
  obtain ⟨k, k1, k2, k3, k4⟩ := ivt (fun k => turn (atI rs ((0 : Nat) : Int)) (atI rs (k : Int)) p) (rs.length - 1) (by omega) s1 (by have := tswap (atI rs ((0 : Nat) : Int)) (atI rs ((rs.length - 1 : Nat) : Int)) p; omega)
  have ek : (((k + 1 : Nat) : Int) - 1) = (k : Int) := by omega
  have g := P.c2 (k + 1) (by omega) p hp
  rw [ek] at g
  have mem : ∀ j : Nat, j < rs.length → atI rs (j : Int) ∈ rs := fun j hj => atI_mem (by omega) (by omega)
  have dist : ∀ i j : Nat, i < rs.length → j < rs.length → i ≠ j → atI rs (i : Int) ≠ atI rs (j : Int) := by
    intro i j hi hj hij e
    rw [atI_nat, atI_nat] at e
    simp only [List.getD_eq_getElem?_getD, List.getElem?_eq_getElem hi, List.getElem?_eq_getElem hj, Option.getD_some] at e
    exact hij ((List.getElem_inj P.nd).mp e)
  have d1 := dist 0 k (by omega) (by omega) (by omega)
  have d2 := dist k (k + 1) (by omega) (by omega) (by omega)
  have d3 := dist 0 (k + 1) (by omega) (by omega) (by omega)
  refine ⟨_, mem 0 (by omega), _, mem k (by omega), _, mem (k + 1) (by omega), d1, d2, d3, ?_⟩
  have nz := no_line P hb (mem 0 (by omega)) (mem k (by omega)) (mem (k + 1) (by omega)) d1 d2 d3
  have k4' : turn (atI rs ((0 : Nat) : Int)) (atI rs ((k + 1 : Nat) : Int)) p ≤ 0 := k4
  have k3' : 0 ≤ turn (atI rs ((0 : Nat) : Int)) (atI rs (k : Int)) p := k3
  have := tswap (atI rs ((0 : Nat) : Int)) (atI rs ((k + 1 : Nat) : Int)) p
  simp only [within, Bool.and_eq_true, Bool.or_eq_true, decide_eq_true_eq]
  exact ⟨nz, .inl ⟨k3', g, by omega⟩⟩
theorem within_swap (x y z p : Pt) : within y x z p = within x y z p := by
  have a := tswap x y z
  have b := tswap x y p
  have c := tswap x z p
  have d := tswap y z p
  rw [Bool.eq_iff_iff]
  simp only [within, Bool.and_eq_true, Bool.or_eq_true, decide_eq_true_eq]
  omega
theorem within_cyc (x y z p : Pt) : within y z x p = within x y z p := by
  have a := tcyc x y z
  rw [Bool.eq_iff_iff]
  simp only [within, Bool.and_eq_true, Bool.or_eq_true, decide_eq_true_eq]
  omega
theorem in3_mem {qs : List Pt} {p : Pt} {a b c : Nat} (ha : a < qs.length) (hb : b < a) (hc : c < b) (h : within (atI qs (a : Int)) (atI qs (b : Int)) (atI qs (c : Int)) p = true) : in3 qs p qs.length ≠ [] := by
  have : (1 : Int) ∈ in3 qs p qs.length := by
    simp only [in3, in2, in1, List.mem_flatMap, List.mem_map, List.mem_filter, List.mem_range]
    exact ⟨a, ha, b, hb, c, ⟨hc, h⟩, trivial⟩
  intro e
  rw [e] at this
  cases this
theorem in3_ne {qs : List Pt} {p x y z : Pt} (hx : x ∈ qs) (hy : y ∈ qs) (hz : z ∈ qs) (nxy : x ≠ y) (nyz : y ≠ z) (nxz : x ≠ z) (h : within x y z p = true) : in3 qs p qs.length ≠ [] := by
  have idx : ∀ w ∈ qs, ∃ i, i < qs.length ∧ atI qs (i : Int) = w := by
    intro w hw
    obtain ⟨i, hi, rfl⟩ := List.getElem_of_mem hw
    exact ⟨i, hi, by rw [atI_nat]; simp [hi]⟩
  obtain ⟨i, hi, rfl⟩ := idx x hx
  obtain ⟨j, hj, rfl⟩ := idx y hy
  obtain ⟨k, hk, rfl⟩ := idx z hz
  have nij : i ≠ j := fun e => nxy (by rw [e])
  have njk : j ≠ k := fun e => nyz (by rw [e])
  have nik : i ≠ k := fun e => nxz (by rw [e])
  have h1 := within_swap (atI qs (i : Int)) (atI qs (j : Int)) (atI qs (k : Int)) p
  have h2 := within_cyc (atI qs (i : Int)) (atI qs (j : Int)) (atI qs (k : Int)) p
  have h3 := within_cyc (atI qs (j : Int)) (atI qs (k : Int)) (atI qs (i : Int)) p
  have h4 := within_cyc (atI qs (j : Int)) (atI qs (i : Int)) (atI qs (k : Int)) p
  have h5 := within_cyc (atI qs (i : Int)) (atI qs (k : Int)) (atI qs (j : Int)) p
  rcases Nat.lt_or_gt_of_ne nij with a | a <;> rcases Nat.lt_or_gt_of_ne njk with b | b <;> rcases Nat.lt_or_gt_of_ne nik with c | c
  · exact in3_mem (a := k) (b := j) (c := i) hk b a (by rw [h5, h4, h1, h])
  · omega
  · exact in3_mem (a := j) (b := k) (c := i) hj b c (by rw [h2, h])
  · exact in3_mem (a := j) (b := i) (c := k) hj a c (by rw [h1, h])
  · exact in3_mem (a := k) (b := i) (c := j) hk c a (by rw [h3, h2, h])
  · exact in3_mem (a := i) (b := k) (c := j) hi c b (by rw [h4, h1, h])
  · omega
  · exact in3_mem (a := i) (b := j) (c := k) hi a b h
theorem poly_c6 (P : Poly ps rs) (hb : ∀ p ∈ ps, Bd p) : ∀ p ∈ ps, decide (p ∈ rs) = (decide (in3 (rest ps p) p (rest ps p).length = []) && decide (bt2 p (rest ps p) (rest ps p) = [])) := by
  intro p hp
  have mr : ∀ q, q ∈ rest ps p → q ∈ ps ∧ q ≠ p := fun q hq => by
    have := List.mem_filter.mp hq
    exact ⟨this.1, of_decide_eq_true this.2⟩
  by_cases h : p ∈ rs
  · have a1 : in3 (rest ps p) p (rest ps p).length = [] := by
      rw [List.eq_nil_iff_forall_not_mem]
      intro x hx
      simp only [in3, in2, in1, List.mem_flatMap, List.mem_map, List.mem_filter, List.mem_range] at hx
      obtain ⟨a, ha, b, hb', c, ⟨hc, hw⟩, _⟩ := hx
      have ma := mr _ (atI_mem (ps := rest ps p) (k := (a : Int)) (by omega) (by omega))
      have mb := mr _ (atI_mem (ps := rest ps p) (k := (b : Int)) (by omega) (by omega))
      have mc := mr _ (atI_mem (ps := rest ps p) (k := (c : Int)) (by omega) (by omega))
      have := corner_out P h ma.1 mb.1 mc.1 ma.2 mb.2 mc.2
      rw [wi, this] at hw
      cases hw
    have a2 : bt2 p (rest ps p) (rest ps p) = [] := by
      rw [List.eq_nil_iff_forall_not_mem]
      intro x hx
      simp only [bt2, bt1, List.mem_flatMap, List.mem_map, List.mem_filter] at hx
      obtain ⟨o1, m1, o2, ⟨m2, hw⟩, _⟩ := hx
      simp only [bw, Bool.and_eq_true, decide_eq_true_eq] at hw
      obtain ⟨w1, w2, w3⟩ := hw
      have k1 := mr _ m1
      have k2 := mr _ m2
      exact corner_mid P h k1.1 k2.1 ((plt_ht (hb _ k1.1) (hb _ hp)).mp w1) ((plt_ht (hb _ hp) (hb _ k2.1)).mp w2) w3
    rw [a1, a2]
    simp [h]
  · obtain ⟨x, hx, y, hy, z, hz, n1, n2, n3, hw⟩ := fan P hb hp h
    have mm : ∀ q ∈ rs, q ∈ rest ps p := fun q hq => List.mem_filter.mpr ⟨P.sub q hq, decide_eq_true fun e => h (e ▸ hq)⟩
    have := in3_ne (mm x hx) (mm y hy) (mm z hz) n1 n2 n3 hw
    simp [h, this]
end
end Mine

/- M9 -/
namespace Mine
open PySem
theorem len_sub : ∀ {l₁ l₂ : List Pt}, l₁.Nodup → (∀ q ∈ l₁, q ∈ l₂) → l₁.length ≤ l₂.length
  | [], _, _, _ => Nat.zero_le _
  | a :: l₁, l₂, hn, hs => by
    rw [List.nodup_cons] at hn
    have ha := hs a (.head _)
    have ih := len_sub (l₂ := l₂.erase a) hn.2 fun q hq => (List.mem_erase_of_ne (fun (e : q = a) => hn.1 (e ▸ hq))).mpr (hs q (.tail _ hq))
    rw [List.length_erase_of_mem ha] at ih
    have := List.length_pos_of_mem ha
    rw [List.length_cons]
    omega
theorem nd_of_plt {l : List Pt} (h : l.Pairwise (fun a b => pltI a b = true)) : l.Nodup := h.imp fun {a b} h e => by
  rw [e] at h
  simp [pltI] at h
theorem ordr_same {xs ys : List Pt} (hx : xs.Nodup) (hy : ys.Nodup) (h : ∀ q, q ∈ xs ↔ q ∈ ys) : ordr xs = ordr ys := by
  obtain ⟨a1, a2, _⟩ := ordr_spec hx
  obtain ⟨b1, b2, _⟩ := ordr_spec hy
  exact srt_unique a1 b1 fun q => by rw [a2, b2, h]
/-- all on one line -/
theorem on_line {ps : List Pt} {a b : Pt} (hab : ht 1000 1 a ≠ ht 1000 1 b) (h : ∀ q ∈ ps, turn a b q = 0) : ∀ x ∈ ps, ∀ y ∈ ps, ∀ z ∈ ps, turn x y z = 0 := by
  have hd : ht 1000 1 b - ht 1000 1 a ≠ 0 := by omega
  have step : ∀ x ∈ ps, ∀ y ∈ ps, turn x y a = 0 ∧ turn x y b = 0 := by
    intro x hx y hy
    have l1 := lin 1000 1 a b y a x
    have l2 := lin 1000 1 a b y b x
    have hx0 := h x hx
    have hy0 := h y hy
    have e1 := tswap' a b x
    have e2 := turn_self' a x
    have e3 := turn_self' b x
    have e4 := tcyc a b x
    have e5 := tswap' b x a
    have e6 := tcyc a x y
    have e7 := tcyc b x y
    rw [e2, hy0, show turn a x b = 0 by omega] at l1
    rw [e3, hy0, show turn b x a = 0 by omega] at l2
    constructor
    · have : (ht 1000 1 b - ht 1000 1 a) * turn a x y = 0 := by grind
      rcases Int.mul_eq_zero.mp this with g | g
      · exact absurd g hd
      · omega
    · have : (ht 1000 1 b - ht 1000 1 a) * turn b x y = 0 := by grind
      rcases Int.mul_eq_zero.mp this with g | g
      · exact absurd g hd
      · omega
  intro x hx y hy z hz
  obtain ⟨s1, s2⟩ := step x hx y hy
  have l := lin 1000 1 a b z x y
  rw [s1, s2, h z hz] at l
  have : (ht 1000 1 b - ht 1000 1 a) * turn x y z = 0 := by grind
  rcases Int.mul_eq_zero.mp this with g | g
  · exact absurd g hd
  · exact g
theorem bst_mem (mx : Bool) : ∀ (qs : List Pt) (p : Pt), bst mx p qs ∈ p :: qs
  | [], p => .head _
  | q :: qs, p => by
    rw [bst]
    generalize (if mx = true then pltI p q else pltI q p) = c
    have := bst_mem mx qs (if c = true then q else p)
    rcases List.mem_cons.mp this with h | h
    · rw [h]
      cases c
      · exact .head _
      · exact .tail _ (.head _)
    · exact .tail _ (.tail _ h)
theorem bst_min : ∀ (qs : List Pt) (p : Pt), (∀ q ∈ p :: qs, Bd q) → ∀ q ∈ p :: qs, ht 1000 1 (bst false p qs) ≤ ht 1000 1 q
  | [], p, _, q, hq => by rw [List.mem_singleton.mp hq]; exact Int.le_refl _
  | x :: qs, p, hb, q, hq => by
    rw [bst]
    have hp := hb p (.head _)
    have hx := hb x (.tail _ (.head _))
    have hpx := plt_ht hx hp
    simp only [Bool.false_eq_true, if_false]
    split
    · rename_i h
      have ih := bst_min qs x fun q hq => hb q (.tail _ hq)
      have h' := hpx.mp h
      rcases List.mem_cons.mp hq with rfl | hq
      · have := ih x (.head _); omega
      · exact ih q hq
    · rename_i h
      have h' : ht 1000 1 p ≤ ht 1000 1 x := by
        rcases Int.lt_or_le (ht 1000 1 x) (ht 1000 1 p) with g | g
        · exact absurd (hpx.mpr g) h
        · exact g
      have ih := bst_min qs p fun q hq => by
        rcases List.mem_cons.mp hq with rfl | hq
        · exact hp
        · exact hb q (.tail _ (.tail _ hq))
      rcases List.mem_cons.mp hq with rfl | hq
      · exact ih q (.head _)
      · rcases List.mem_cons.mp hq with rfl | hq
        · have := ih p (.head _); omega
        · exact ih q (.tail _ hq)
theorem bst_max : ∀ (qs : List Pt) (p : Pt), (∀ q ∈ p :: qs, Bd q) → ∀ q ∈ p :: qs, ht 1000 1 q ≤ ht 1000 1 (bst true p qs)
  | [], p, _, q, hq => by rw [List.mem_singleton.mp hq]; exact Int.le_refl _
  | x :: qs, p, hb, q, hq => by
    rw [bst]
    have hp := hb p (.head _)
    have hx := hb x (.tail _ (.head _))
    have hpx := plt_ht hp hx
    simp only [if_true]
    split
    · rename_i h
      have ih := bst_max qs x fun q hq => hb q (.tail _ hq)
      have h' := hpx.mp h
      rcases List.mem_cons.mp hq with rfl | hq
      · have := ih x (.head _); omega
      · exact ih q hq
    · rename_i h
      have h' : ht 1000 1 x ≤ ht 1000 1 p := by
        rcases Int.lt_or_le (ht 1000 1 p) (ht 1000 1 x) with g | g
        · exact absurd (hpx.mpr g) h
        · exact g
      have ih := bst_max qs p fun q hq => by
        rcases List.mem_cons.mp hq with rfl | hq
        · exact hp
        · exact hb q (.tail _ (.tail _ hq))
      rcases List.mem_cons.mp hq with rfl | hq
      · exact ih q (.head _)
      · rcases List.mem_cons.mp hq with rfl | hq
        · have := ih p (.head _); omega
        · exact ih q (.tail _ hq)
section
variable {ps : List Pt} {b t : Pt} {r r2 : List Pt}
theorem Two.bps (T : Two ps b t r r2) : b ∈ ps := T.his b (.head _)
theorem Two.tps (T : Two ps b t r r2) : t ∈ ps := T.los t (.head _)
theorem Two.line (T : Two ps b t r r2) (h : ∀ x ∈ ps, ∀ y ∈ ps, ∀ z ∈ ps, turn x y z = 0) : Mine.ring ps = [b, t] := by
  have e1 : r = [b] := by
    cases e : r with
    | nil => exact absurd e T.rne
    | cons x r' =>
      have l := T.lol
      have k := T.lo
      have s := T.los
      rw [e] at l k s
      cases r' with
      | nil =>
        simp only [List.getLast?_cons_cons, List.getLast?_singleton, Option.some.injEq] at l
        rw [l]
      | cons y r'' =>
        have := k.2.2.1 y r'' rfl
        rw [h y (s y (.tail _ (.tail _ (.head _)))) x (s x (.tail _ (.head _))) t (s t (.head _))] at this
        exact absurd this (by decide)
  have e2 : r2 = [t] := by
    cases e : r2 with
    | nil => exact absurd e T.r2ne
    | cons x r' =>
      have l := T.hil
      have k := T.hi
      have s := T.his
      rw [e] at l k s
      cases r' with
      | nil =>
        simp only [List.getLast?_cons_cons, List.getLast?_singleton, Option.some.injEq] at l
        rw [l]
      | cons y r'' =>
        have := k.2.2.1 y r'' rfl
        rw [h y (s y (.tail _ (.tail _ (.head _)))) x (s x (.tail _ (.head _))) b (s b (.head _))] at this
        exact absurd this (by decide)
  rw [T.ring, e1, e2]
  rfl
end
theorem full_of {ps : List Pt} {b t : Pt} {r r2 : List Pt} (T : Two ps b t r r2) (hn : ps.Nodup) (hb : ∀ p ∈ ps, 0 ≤ p.1 ∧ p.1 ≤ 7 ∧ 0 ≤ p.2 ∧ p.2 ≤ 7) (h2 : 2 ≤ ps.length) (nf : NF ps) : Full ps := by
  have bd : ∀ p ∈ ps, Bd p := fun p hp => by have := hb p hp; unfold Bd; omega
  have P := poly_of T nf
  have rr := ring_ring T bd P.nd
  refine ⟨P.h3, P.c1, P.c2, poly_c6 P bd, by rw [rr]; exact P.nd, by rw [rr], by rw [rr], ?_, poly_c11 P, poly_c12 P, poly_c13 P⟩
  rintro mid rfl
  have hnd : (ps.map dbl).Nodup := by
    refine List.pairwise_map.mpr (hn.imp fun {a b} hab e => hab ?_)
    unfold dbl at e
    simp only [Prod.mk.injEq] at e
    exact Prod.ext (by omega) (by omega)
  have hbd : ∀ p ∈ ps.map dbl, Bd p := by
    intro p hp
    obtain ⟨q, hq, rfl⟩ := List.mem_map.mp hp
    have := hb q hq
    unfold Bd dbl
    dsimp only
    omega
  obtain ⟨b', t', r', r2', T'⟩ := two_chains hnd hbd (by simpa using h2)
  have h3 := P.h3
  have m0 := P.sub _ (atI_mem (ps := ring ps) (k := 0) (by omega) (by omega))
  have m1 := P.sub _ (atI_mem (ps := ring ps) (k := 1) (by omega) (by omega))
  have q0 := hb _ m0
  have q1 := hb _ m1
  split
  · rw [List.append_nil]
  · rename_i hm
    refine ring_mid T' hnd hbd (List.mem_map.mpr ⟨_, m0, rfl⟩) (List.mem_map.mpr ⟨_, m1, rfl⟩) ?_ ?_ ?_ hm
    · unfold Bd; dsimp only; omega
    · unfold dbl; dsimp only; omega
    · unfold dbl; dsimp only; omega
theorem flatL_nil {a b : Pt} {qs : List Pt} : flatL a b qs = [] ↔ ∀ q ∈ qs, turn a b q = 0 := by
  unfold flatL
  rw [List.map_eq_nil_iff, List.filter_eq_nil_iff]
  constructor
  · intro h q hq
    have := h q hq
    simpa using this
  · intro h q hq
    have := h q hq
    simpa using this
/-- the plain law -/
theorem lawFacts {ps : List Pt} (hn : ps.Nodup) (hb : ∀ p ∈ ps, 0 ≤ p.1 ∧ p.1 ≤ 7 ∧ 0 ≤ p.2 ∧ p.2 ≤ 7) : LawFacts ps := by
  have bd : ∀ p ∈ ps, Bd p := fun p hp => by have := hb p hp; unfold Bd; omega
  obtain ⟨o1, o2, o3⟩ := ordr_spec hn
  rcases Nat.lt_or_ge ps.length 2 with h | h2
  · have e : ring ps = ordr ps := by
      unfold ring
      rw [if_pos (by omega)]
    have nd := nd_of_plt o1
    refine ⟨e ▸ nd, by rw [e, o3]; exact Nat.le_refl _, fun p hp => (o2 p).mp (e ▸ hp), fun _ => ?_, fun _ _ _ h3 => absurd h3 (by omega), fun h3 => absurd h3 (by omega)⟩
    rw [e]
    exact ordr_same nd hn o2
  · obtain ⟨b, t, r, r2, T⟩ := two_chains hn bd h2
    have nd := T.nodup
    have hbt : b ≠ t := fun e => by have := T.lt; rw [e] at this; exact absurd this (Int.lt_irrefl _)
    -- the first two
    obtain ⟨p0, p1, qs, rfl⟩ : ∃ p0 p1 qs, ps = p0 :: p1 :: qs := by
      match ps, h2 with
      | p0 :: p1 :: qs, _ => exact ⟨p0, p1, qs, rfl⟩
    have a0 : atI (p0 :: p1 :: qs) 0 = p0 := rfl
    have a1 : atI (p0 :: p1 :: qs) 1 = p1 := rfl
    have hd : (p0 :: p1 :: qs).drop 2 = qs := rfl
    have n01 : p0 ≠ p1 := fun e => (List.nodup_cons.mp hn).1 (e ▸ .head _)
    have m0 : p0 ∈ p0 :: p1 :: qs := .head _
    have m1 : p1 ∈ p0 :: p1 :: qs := .tail _ (.head _)
    have line_iff : flatL (atI (p0 :: p1 :: qs) 0) (atI (p0 :: p1 :: qs) 1) ((p0 :: p1 :: qs).drop 2) = [] ↔ ∀ q ∈ p0 :: p1 :: qs, turn p0 p1 q = 0 := by
      rw [a0, a1, hd, flatL_nil]
      constructor
      · intro h q hq
        rcases List.mem_cons.mp hq with rfl | hq
        · exact turn_self' _ _
        · rcases List.mem_cons.mp hq with rfl | hq
          · exact turn_self _ _
          · exact h q hq
      · exact fun h q hq => h q (.tail _ (.tail _ hq))
    refine ⟨nd, len_sub nd T.sub, T.sub, fun hsm => ?_, fun x ps' e h3 hf => ?_, fun h3 hf => ?_⟩
    · refine ordr_same nd hn fun q => ⟨T.sub q, fun hq => ?_⟩
      have hqs : qs = [] := by
        cases qs with
        | nil => rfl
        | cons _ _ => simp only [List.length_cons] at hsm; omega
      subst hqs
      have hbm := T.bps
      have htm := T.tps
      simp only [List.mem_cons, List.not_mem_nil, or_false] at hq hbm htm
      have rb : b ∈ ring [p0, p1] := (T.mem b).mpr (.inl T.bIn)
      have rt : t ∈ ring [p0, p1] := (T.mem t).mpr (.inr T.tIn)
      rcases hq with rfl | rfl
      · rcases hbm with g | g
        · exact g ▸ rb
        · rcases htm with k | k
          · exact k ▸ rt
          · exact absurd (g.trans k.symm) hbt
      · rcases hbm with g | g
        · rcases htm with k | k
          · exact absurd (g.trans k.symm) hbt
          · exact k ▸ rt
        · exact g ▸ rb
    · have hl := line_iff.mp hf
      have hall := on_line (fun e => n01 (ht_inj (bd p0 m0) (bd p1 m1) e)) hl
      have er := T.line hall
      rw [e] at bd T
      have eb : bst false x ps' = b := by
        have q1 := bst_mem false ps' x
        have q2 := bst_min ps' x bd b T.bps
        have q3 := T.mn _ q1
        exact ht_inj (bd _ q1) (bd _ T.bps) (by omega)
      have et : bst true x ps' = t := by
        have q1 := bst_mem true ps' x
        have q2 := bst_max ps' x bd t T.tps
        have q3 := T.mx _ q1
        exact ht_inj (bd _ q1) (bd _ T.tps) (by omega)
      rw [eb, et, er]
      exact ⟨by simp [hbt], rfl⟩
    · refine full_of T hn hb h2 fun x hx y hy hxy => ?_
      apply Classical.byContradiction
      intro hno
      have hz : ∀ q ∈ p0 :: p1 :: qs, turn x y q = 0 := fun q hq => by
        apply Classical.byContradiction
        exact fun g => hno ⟨q, hq, g⟩
      have hall := on_line (fun e => hxy (ht_inj (bd x hx) (bd y hy) e)) hz
      exact hf (line_iff.mpr fun q hq => hall p0 m0 p1 m1 q hq)
end Mine

/- the join -/
namespace Mine
open PySem PySem.W PyProof.Rows PySem.Calls PySem.Spec
theorem reset_join {prog : Program} {w : World} {A : Around} {env : Env} {Q : Flow → Shared → Prop} {E : Value → Shared → Prop} {s : Shared} (h : Q .next s) : wpAny (model prog w) A (execs [] env) Q E s := by
  k_with_none
  w_top off
  walk1
  exact h
end Mine
namespace Mine
open PySem PySem.W PyProof.Rows PySem.Calls PySem.Spec
variable {w : World} {loose : List Str} {mean : ExcName → Option Value} {mg mb : Str → Option Value} {h₀ : Heap} {L f : Addr} {cd : Value} {m : Str → Option Value} {s : Shared}
  {Q : Flow → Shared → Prop} {E : Value → Shared → Prop} {v1 v2 v3 v4 v5 v6 : Option Value}
theorem law_all {sl : Nat} {us : List Value} {ns : List Int}
    (B : Below callerA h₀ [] h₀) (X : (hd.heap_39 w.params).In h₀) (T : Top hd.view_39 loose mean mg mb h₀)
    (H : LS h₀ L m v1 v2 v3 v4 v5 v6 [] s.heap)
    (hms : m (Str.ofString "script") = some (.ref sl)) (hL : h₀.IsList sl us.toArray) (hI : IntsAre us ns) (hz : ns.length ≤ 63)
    (hret : ∀ m h' tk', Fr h₀ L h' m → Q (.ret (.bool true)) { s with heap := h', toks := tk' }) :
    wpAny (model PySem.Challenge.rw_zz0003_01.row.prog w) (callerA.deeper (lawEnv L f cd)) (execs lawBody (lawEnv L f cd)) Q E s := by
  exact law_walk B X T (modules_low T.nolimit) H hms hL hI hz (lawFacts (lawPts_nd _ [] .nil) (lawPts_bd _ [] (fun p hp => nomatch hp))) hret
end Mine
open PySem PySem.W PyProof.Rows PySem.Calls PySem.Spec Mine
theorem PySem.Challenge.cw_zz0003_01_holds : PySem.Challenge.rw_zz0003_01.Holds :=
  hd (by
  k_go0
  try k_fold
  dsimp only
  rename Top _ _ _ _ _ _ => hT
  rename Below _ _ _ _ => hB
  rename Fr _ _ _ _ => hF
  rename News _ _ _ _ => hN
  rename IntsAre _ _ => hI
  rename Heap.IsList _ _ _ => hL
  rename Frag.In _ _ => hX
  refine' law_all hB hX hT ?ls ?ms hL hI ?z ?ret
  case ls => exact ⟨hF, ⟨_, _, _, _, _, _, by assumption, by assumption, by assumption, by assumption, by assumption, by assumption, hN⟩, fun p hp => nomatch hp⟩
  case z => omega
  case ms => rfl
  clear hF hN
  intro m9 h9 tk9 F9
  k_steps)
