import PyProof.Rows.All
import Wide.All
import OpenK.AllK
import Wide.FinOn
import PySem.Challenge.RW_nq0079_01
open PySem PySem.W PyProof.Rows
set_option Elab.async false
set_option compiler.extract_closed false
namespace Mine
section HDx
set_option maxRecDepth 100000
set_option maxHeartbeats 8000000
open_top hd for PySem.Challenge.rw_nq0079_01
end HDx
section HAx
set_option maxRecDepth 100000
set_option maxHeartbeats 4000000
/-- a row of the pile: writing, listing, place -/
structure Row where
  w : Str
  l : Str
  p : Int
noncomputable def strLt (a b : Str) : Bool := decide (a.cps.toList < b.cps.toList)
noncomputable def rowLt (a b : Row) : Bool := if a.w = b.w then (if a.l = b.l then decide (a.p < b.p) else strLt a.l b.l) else strLt a.w b.w
noncomputable abbrev tupO (vs : List Value) : Obj := { cls := .type "tuple", data := .seq vs.toArray 0 }
noncomputable abbrev tup3 (r : Row) (t1 t2 t3 : Tok) : Obj := tupO [.str r.w t1, .str r.l t2, .int r.p t3]
section
variable {prog : Program} {w : World} {A : Around} {E : Value → Shared → Prop} {s : Shared} {Q : Value → Shared → Prop}
theorem lt_row {a b : Addr} {r q : Row} {t1 t2 t3 u1 u2 u3 : Tok} (ha : s.heap.get? a = some (tup3 r t1 t2 t3)) (hb : s.heap.get? b = some (tup3 q u1 u2 u3)) (hu : A.units < cLine)
    (h : Q (.bool (rowLt r q)) s) : wpAny (model prog w) A (compareOp .Lt (.ref a) (.ref b)) Q E s := by
  have hTa : s.TypeIs (.ref a) "tuple" := ⟨_, ha, rfl⟩
  have hTb : s.TypeIs (.ref b) "tuple" := ⟨_, hb, rfl⟩
  refine cmp_ofLt (wpAny_richCompare_same_room (op := .Lt) hTa hTb F.slot_tuple_lt (wpAny_call_entry F.slot_tuple_lt hTa F.entry_tuple_lt ?_ (F.args_tuple_lt_2 _ _)) hu)
  show wpAny _ _ (isInstance (.ref b) (.type "tuple") >>= _) _ _ s
  refine wpAny_bind (wpAny_isInstance hTb isSubtype_tuple_tuple ?_)
  simp only [Bool.not_true, Bool.false_eq_true, if_false]
  refine wpAny_bind (wpAny_tupleItemsOf ha rfl ?_)
  refine wpAny_bind (wpAny_tupleItemsOf hb rfl ?_)
  refine wpAny_bind ?_
  show wpAny _ _ (forIn [(Value.str r.w t1, Value.str q.w u1), (Value.str r.l t2, Value.str q.l u2), (Value.int r.p t3, Value.int q.p u3)] _ _) _ _ _
  rw [List.forIn_cons]
  refine wpAny_bind (wpAny_bind (SeqAt.EqAt.str_str r.w t1 q.w u1 _ _ _ _ ?_))
  by_cases hw : r.w = q.w
  · simp only [hw, beq_self_eq_true, Bool.not_true, Bool.false_eq_true, if_false]
    refine wpAny_pure ?_
    simp only
    rw [List.forIn_cons]
    refine wpAny_bind (wpAny_bind (SeqAt.EqAt.str_str r.l t2 q.l u2 _ _ _ _ ?_))
    by_cases hl : r.l = q.l
    · simp only [hl, beq_self_eq_true, Bool.not_true, Bool.false_eq_true, if_false]
      refine wpAny_pure ?_
      simp only
      rw [List.forIn_cons]
      refine wpAny_bind (wpAny_bind (SeqAt.EqAt.int_int r.p t3 q.p u3 _ _ _ _ ?_))
      by_cases hp : r.p = q.p
      · simp only [hp, beq_self_eq_true, Bool.not_true, Bool.false_eq_true, if_false]
        refine wpAny_pure ?_
        simp only
        rw [List.forIn_nil]
        refine wpAny_pure ?_
        refine wpAny_pure ?_
        refine ⟨_, rfl, (fun e => nomatch e), ?_⟩
        have : rowLt r q = false := by simp [rowLt, hw, hl, hp]
        rw [this] at h
        exact h
      · have : (r.p == q.p) = false := by simpa using hp
        simp only [this, Bool.not_false, if_true]
        have hr : rowLt r q = decide (r.p < q.p) := by simp [rowLt, hw, hl]
        rw [hr] at h
        refine wpAny_bind (wpAny_rule (wpAny_bind (lt_int ?_)))
        exact wpAny_bind (wpAny_pure (wpAny_pure (wpAny_pure (wpAny_pure ⟨_, rfl, (fun e => nomatch e), h⟩))))
    · have : (r.l == q.l) = false := by simpa using hl
      simp only [this, Bool.not_false, if_true]
      have hr : rowLt r q = strLt r.l q.l := by simp [rowLt, hw, hl]
      rw [hr] at h
      refine wpAny_bind (wpAny_rule (wpAny_bind (lt_str ?_)))
      exact wpAny_bind (wpAny_pure (wpAny_pure (wpAny_pure (wpAny_pure ⟨_, rfl, (fun e => nomatch e), h⟩))))
  · have : (r.w == q.w) = false := by simpa using hw
    simp only [this, Bool.not_false, if_true]
    have hr : rowLt r q = strLt r.w q.w := by simp [rowLt, hw]
    rw [hr] at h
    refine wpAny_bind (wpAny_rule (wpAny_bind (lt_str ?_)))
    exact wpAny_bind (wpAny_pure (wpAny_pure (wpAny_pure (wpAny_pure ⟨_, rfl, (fun e => nomatch e), h⟩))))
end
end HAx
section HBx
set_option maxRecDepth 100000
set_option maxHeartbeats 4000000
noncomputable def row0 : Row := ⟨Str.empty, Str.empty, 0⟩
noncomputable def RowIn (nw : List (Addr × Obj)) (v : Value) (r : Row) : Prop := ∃ a t1 t2 t3, v = .ref a ∧ (a, tup3 r t1 t2 t3) ∈ nw
noncomputable def RowsIn (nw : List (Addr × Obj)) (vs : List Value) (rows : List Row) : Prop := vs.length = rows.length ∧ ∀ (i : Nat) v r, vs[i]? = some v → rows[i]? = some r → RowIn nw v r
theorem RowIn.mono {nw nw' : List (Addr × Obj)} {v : Value} {r : Row} (h : RowIn nw v r) (hs : ∀ p ∈ nw, p ∈ nw') : RowIn nw' v r := by
  obtain ⟨a, t1, t2, t3, e, hm⟩ := h
  exact ⟨a, t1, t2, t3, e, hs _ hm⟩
theorem RowsIn.mono {nw nw' : List (Addr × Obj)} {vs : List Value} {rows : List Row} (h : RowsIn nw vs rows) (hs : ∀ p ∈ nw, p ∈ nw') : RowsIn nw' vs rows :=
  ⟨h.1, fun i v r h1 h2 => (h.2 i v r h1 h2).mono hs⟩
theorem RowsIn.get {nw : List (Addr × Obj)} {vs : List Value} {rows : List Row} (h : RowsIn nw vs rows) {i : Nat} (hi : i < rows.length) :
    ∃ a t1 t2 t3, vs[i]? = some (.ref a) ∧ (a, tup3 (rows.getD i row0) t1 t2 t3) ∈ nw := by
  have hv : i < vs.length := by rw [h.1]; exact hi
  obtain ⟨a, t1, t2, t3, e, hm⟩ := h.2 i _ _ (List.getElem?_eq_getElem hv) (List.getElem?_eq_getElem hi)
  refine ⟨a, t1, t2, t3, by rw [List.getElem?_eq_getElem hv, e], ?_⟩
  have e2 : rows.getD i row0 = rows[i] := by simp [List.getD, hi]
  rw [e2]; exact hm
theorem RowsIn.set {nw : List (Addr × Obj)} {vs : List Value} {rows : List Row} (h : RowsIn nw vs rows) (i : Nat) {v : Value} {r : Row} (hr : RowIn nw v r) :
    RowsIn nw (vs.set i v) (rows.set i r) := by
  refine ⟨by simp [h.1], fun j v' r' h1 h2 => ?_⟩
  rw [List.getElem?_set] at h1 h2
  by_cases e : i = j
  · subst e
    by_cases hi : i < vs.length
    · rw [h.1] at hi
      simp [hi, h.1] at h1 h2
      subst h1 h2
      exact hr
    · have : ¬ i < rows.length := by rw [← h.1]; exact hi
      simp [this] at h2
  · simp [e] at h1 h2
    exact h.2 j v' r' h1 h2
theorem RowsIn.nil {nw : List (Addr × Obj)} : RowsIn nw [] [] := ⟨rfl, fun i v r h => by simp at h⟩
theorem RowsIn.snoc {nw : List (Addr × Obj)} {vs : List Value} {rows : List Row} (h : RowsIn nw vs rows) {v : Value} {r : Row} (hr : RowIn nw v r) :
    RowsIn nw (vs ++ [v]) (rows ++ [r]) := by
  refine ⟨by simp [h.1], fun j v' r' h1 h2 => ?_⟩
  by_cases e : j < vs.length
  · rw [List.getElem?_append_left e] at h1
    rw [List.getElem?_append_left (by rw [← h.1]; exact e)] at h2
    exact h.2 j v' r' h1 h2
  · rw [List.getElem?_append_right (by (first | lia | omega))] at h1
    rw [List.getElem?_append_right (by rw [← h.1]; (first | lia | omega))] at h2
    by_cases e2 : j - vs.length = 0
    · rw [e2] at h1
      have e3 : j - rows.length = 0 := by rw [← h.1]; exact e2
      rw [e3] at h2
      simp at h1 h2
      subst h1 h2
      exact hr
    · have : 1 ≤ j - vs.length := by (first | lia | omega)
      rw [List.getElem?_eq_none (by simpa using this)] at h1
      cases h1
theorem RowsIn.dropLast {nw : List (Addr × Obj)} {vs : List Value} {rows : List Row} (h : RowsIn nw vs rows) : RowsIn nw vs.dropLast rows.dropLast := by
  refine ⟨by simp [h.1], fun j v' r' h1 h2 => ?_⟩
  rw [List.getElem?_dropLast] at h1 h2
  split at h1
  · split at h2
    · exact h.2 j v' r' h1 h2
    · cases h2
  · cases h1
section
variable {prog : Program} {w : World} {A : Around} {E : Value → Shared → Prop} {s : Shared} {h₀ : Heap} {L D : Addr} {m : Str → Option Value} {news news' nw : List (Addr × Obj)} {vs : List Value} {rows : List Row} {n : Nat} {k : Int} {t u : Tok}
theorem fit63 {k : Int} {n : Nat} (h : k < (n : Int)) (hn : n < 1000) : k < 2 ^ 63 := Int.lt_trans h (Int.lt_trans (Int.ofNat_lt.mpr hn) (by decide))
theorem row_sub {value slice : PySem.Expr} {Q : Value → Shared → Prop} (N : News h₀ L s.heap news) (hm : (D, listOf vs.toArray n) ∈ news) (hr : RowsIn nw vs rows) (h0 : 0 ≤ k) (h1 : k < (rows.length : Int)) (hl : rows.length < 1000)
    (h : ∀ a t1 t2 t3, vs[k.toNat]? = some (.ref a) → (a, tup3 (rows.getD k.toNat row0) t1 t2 t3) ∈ nw → Q (.ref a) s)
    (hs : subscripted slice false (.ref D) (.int k u) = operate [.ref D, .int k u] (getItem (.ref D) (.int k u)) := by with_unfolding_all rfl) (hg : ∀ r, letTemporaryGo value (.ref D) r = pure () := by intro _; with_unfolding_all rfl) :
    wpAny (model prog w) A (subscriptTail value slice (.ref D) (.int k u)) Q E s := by
  obtain ⟨a, t1, t2, t3, hv, hm'⟩ := hr.get (i := k.toNat) (by (first | lia | omega))
  exact kim_list N hm rfl rfl h0 (fit63 h1 hl) hv (h a t1 t2 t3 hv hm') hs hg
theorem row_set {v : Value} {r : Row} {Q : Unit → Shared → Prop} (F : Fr h₀ L s.heap m) (N : News h₀ L s.heap news) (U : Upd D (listOf vs.toArray n) (listOf (vs.set k.toNat v).toArray n) news news') (hr : RowsIn nw vs rows) (hv : RowIn nw v r) (h0 : 0 ≤ k) (h1 : k < (rows.length : Int)) (hl : rows.length < 1000)
    (h : ∀ h', Fr h₀ L h' m → News h₀ L h' news' → RowsIn nw (vs.set k.toNat v) (rows.set k.toNat r) → Q () { s with heap := h' }) :
    wpAny (model prog w) A (setItem (.ref D) (.int k t) v) Q E s := by
  obtain ⟨pre, post, rfl, rfl, a, b⟩ := U.split
  have z := N (D, listOf vs.toArray n) (List.mem_append.mpr (.inr (.head _)))
  have hs : vs.toArray.size = rows.length := by rw [List.size_toArray]; exact hr.1
  refine ki_setAt z.1 h0 (fit63 h1 hl) (by (first | lia | omega)) (h _ (F.change (Heap.SameBut.update ..) z.2.1 z.2.2) (ki_turn _ N a b ?_ ?_) (hr.set _ hv))
  · show vs.toArray.setIfInBounds k.toNat v = (vs.set k.toNat v).toArray
    apply Array.toList_inj.mp
    simp
  · simp
theorem row_len {Q : Value → Shared → Prop} (N : News h₀ L s.heap news) (hm : (D, listOf vs.toArray n) ∈ news) (hr : RowsIn nw vs rows) (hl : rows.length < 1000)
    (h : Q (.int (rows.length : Int) (s.toks + 1)) { s with toks := s.toks + 1 + 1 }) : wpAny (model prog w) A (call (.builtin "len") [.ref D]) Q E s := by
  have hs : vs.toArray.size = rows.length := by rw [List.size_toArray]; exact hr.1
  refine len_list (PySem.IsL.isList (n := n) (N _ hm).1) (by (first | lia | omega)) ?_
  rw [hs]
  exact h
theorem row_pop {Q : Value → Shared → Prop} (F : Fr h₀ L s.heap m) (N : News h₀ L s.heap news) (U : Upd D (listOf vs.toArray n) (listOf vs.dropLast.toArray (n + 1)) news news') (hr : RowsIn nw vs rows) (hne : 0 < rows.length) (hl : rows.length < 1000)
    (h : ∀ h' a t1 t2 t3, Fr h₀ L h' m → News h₀ L h' news' → RowsIn nw vs.dropLast rows.dropLast → (a, tup3 (rows.getD (rows.length - 1) row0) t1 t2 t3) ∈ nw → Q (.ref a) { s with heap := h' }) :
    wpAny (model prog w) A (call (.builtin "list.pop") [.ref D]) Q E s := by
  obtain ⟨a, t1, t2, t3, hv, hm⟩ := hr.get (i := rows.length - 1) (by (first | lia | omega))
  have h1 : vs = vs.dropLast ++ [Value.ref a] := by
    have hne' : vs ≠ [] := by intro e; have := hr.1; rw [e] at this; simp at this; (first | lia | omega)
    have := List.dropLast_concat_getLast hne'
    rw [List.getLast_eq_getElem] at this
    have hl' : vs.length = rows.length := hr.1
    have e : vs[vs.length - 1]'(by (first | lia | omega)) = Value.ref a := by
      have := hv
      rw [← hl', List.getElem?_eq_getElem (by (first | lia | omega))] at this
      exact Option.some.inj this
    rw [e] at this
    exact this.symm
  refine kl_pop F N (p := vs.dropLast) (y := .ref a) ?_ U ?_ fun h' F' N' => h h' a t1 t2 t3 F' N' hr.dropLast hm
  · have e := kpa_last (.ref a) vs.dropLast
    rw [← h1] at e
    simpa using e
  · have := hr.1
    rw [sizeLine_eq]
    show vs.length ≤ _
    (first | lia | omega)
theorem row_truthy {Q : Bool → Shared → Prop} (N : News h₀ L s.heap news) (hm : (D, listOf vs.toArray n) ∈ news) (hr : RowsIn nw vs rows) (hl : rows.length < 1000)
    (h : Q (decide (0 < rows.length)) { s with toks := s.toks + 1 + 1 }) : wpAny (model prog w) A (truthy (.ref D)) Q E s := by
  have hs : vs.toArray.size = rows.length := by rw [List.size_toArray]; exact hr.1
  refine wpAny_truthy_list (PySem.IsL.isList (n := n) (N _ hm).1) (by (first | lia | omega)) ?_
  have : (!vs.toArray.isEmpty) = decide (0 < rows.length) := by
    rw [← hs, Array.isEmpty]
    by_cases e : vs.toArray.size = 0
    · simp [e]
    · have : 0 < vs.toArray.size := by (first | lia | omega)
      simp only [e, decide_false, Bool.not_false, this, decide_true]
  rw [this]
  exact h
theorem lt_rowN {a b : Addr} {r q : Row} {t1 t2 t3 u1 u2 u3 : Tok} {Q : Value → Shared → Prop} (N : News h₀ L s.heap news) (ha : (a, tup3 r t1 t2 t3) ∈ news) (hb : (b, tup3 q u1 u2 u3) ∈ news) (hu : A.units < cLine)
    (h : Q (.bool (rowLt r q)) s) : wpAny (model prog w) A (compareOp .Lt (.ref a) (.ref b)) Q E s := lt_row (N _ ha).1 (N _ hb).1 hu h
theorem lt_rowR {a b : Addr} {r q : Row} {t1 t2 t3 u1 u2 u3 : Tok} {e : Addr × Obj} {rest : List (Addr × Obj)} {Q : Value → Shared → Prop} (N : News h₀ L s.heap (e :: rest)) (hnw : ∀ q ∈ nw, q ∈ rest) (ha : (a, tup3 r t1 t2 t3) ∈ nw) (hb : (b, tup3 q u1 u2 u3) ∈ nw) (hu : A.units < cLine)
    (h : Q (.bool (rowLt r q)) s) : wpAny (model prog w) A (compareOp .Lt (.ref a) (.ref b)) Q E s := lt_row (N _ (.tail _ (hnw _ ha))).1 (N _ (.tail _ (hnw _ hb))).1 hu h
structure Ov (h₀ : Heap) (L : Addr) (h : Heap) (m m' : Str → Option Value) : Prop where
  fr : Fr h₀ L h m'
  eq : m' = m
theorem Ov.nil {h : Heap} (F : Fr h₀ L h m) : Ov h₀ L h m m := ⟨F, rfl⟩
theorem Ov.cons {h : Heap} {m' : Str → Option Value} {x : Str} {v : Value} (o : Ov h₀ L h m m') (h1 : m x = some v) : Ov h₀ L h m (fun y => if y = x then some v else m' y) := by
  have : (fun y => if y = x then some v else m' y) = m := by
    rw [o.eq]
    funext z
    by_cases e : z = x
    · rw [if_pos e, e, h1]
    · rw [if_neg e]
  refine ⟨?_, this⟩
  rw [this, ← o.eq]
  exact o.fr
theorem int_at {o : Option Value} {a b : Int} {t : Tok} (h : o = some (.int a t)) (e : a = b) : ∃ t', o = some (.int b t') := ⟨t, by rw [h, e]⟩
theorem shr1 (a : Int) : a.fdiv (2 ^ Int.toNat 1) = a / 2 := by
  have : (2 : Int) ^ Int.toNat 1 = 2 := by decide
  rw [this, Int.fdiv_eq_ediv_of_nonneg _ (by decide)]
end
/-! the plain heap -/
noncomputable def sdLoop (x : Row) (sp : Nat) : Nat → List Row → Nat → List Row × Nat
  | 0, h, p => (h, p)
  | f + 1, h, p => if sp < p then (if rowLt x (h.getD ((p - 1) / 2) row0) then sdLoop x sp f (h.set p (h.getD ((p - 1) / 2) row0)) ((p - 1) / 2) else (h, p)) else (h, p)
theorem sdLoop_fuel {x : Row} {sp : Nat} : ∀ (f g : Nat) (h : List Row) (p : Nat), p ≤ f → p ≤ g → sdLoop x sp f h p = sdLoop x sp g h p
  | 0, g, h, p, h1, h2 => by
    have : p = 0 := by (first | lia | omega)
    subst this
    cases g <;> simp [sdLoop]
  | f + 1, 0, h, p, h1, h2 => by
    have : p = 0 := by (first | lia | omega)
    subst this
    simp [sdLoop]
  | f + 1, g + 1, h, p, h1, h2 => by
    unfold sdLoop
    split
    · split
      · exact sdLoop_fuel f g _ _ (by (first | lia | omega)) (by (first | lia | omega))
      · rfl
    · rfl
noncomputable def siftdownP (rows : List Row) (sp p : Nat) : List Row :=
  let r := sdLoop (rows.getD p row0) sp p rows p
  r.1.set r.2 (rows.getD p row0)
theorem sdLoop_go {x : Row} {sp k : Nat} {h : List Row} (h1 : sp < k) (h2 : rowLt x (h.getD ((k - 1) / 2) row0) = true) : sdLoop x sp k h k = sdLoop x sp ((k - 1) / 2) (h.set k (h.getD ((k - 1) / 2) row0)) ((k - 1) / 2) := by
  obtain ⟨j, rfl⟩ : ∃ j, k = j + 1 := ⟨k - 1, by (first | lia | omega)⟩
  rw [sdLoop, if_pos h1, if_pos h2]
  exact sdLoop_fuel _ _ _ _ (by (first | lia | omega)) (by (first | lia | omega))
theorem sdLoop_stop1 {x : Row} {sp k : Nat} {h : List Row} (h1 : ¬ sp < k) : sdLoop x sp k h k = (h, k) := by
  cases k with
  | zero => rfl
  | succ k => rw [sdLoop, if_neg h1]
theorem sdLoop_stop2 {x : Row} {sp k : Nat} {h : List Row} (h2 : rowLt x (h.getD ((k - 1) / 2) row0) = false) : sdLoop x sp k h k = (h, k) := by
  cases k with
  | zero => rfl
  | succ k =>
    rw [sdLoop]
    split
    · rw [if_neg (by rw [h2]; exact Bool.false_ne_true)]
    · rfl
theorem siftdownP_eq {rows h : List Row} {sp p k : Nat} (e : sdLoop (rows.getD p row0) sp p rows p = (h, k)) : siftdownP rows sp p = h.set k (rows.getD p row0) := by
  unfold siftdownP
  rw [e]
noncomputable def suLoop : Nat → List Row → Nat → List Row × Nat
  | 0, h, p => (h, p)
  | f + 1, h, p => if 2 * p + 1 < h.length then
      (if 2 * p + 2 < h.length ∧ rowLt (h.getD (2 * p + 1) row0) (h.getD (2 * p + 2) row0) = false then suLoop f (h.set p (h.getD (2 * p + 2) row0)) (2 * p + 2)
       else suLoop f (h.set p (h.getD (2 * p + 1) row0)) (2 * p + 1)) else (h, p)
theorem suLoop_fuel : ∀ (f g : Nat) (h : List Row) (p : Nat), h.length - p ≤ f → h.length - p ≤ g → suLoop f h p = suLoop g h p
  | 0, g, h, p, h1, h2 => by
    cases g with
    | zero => rfl
    | succ g =>
      unfold suLoop
      rw [if_neg (by (first | lia | omega))]
  | f + 1, 0, h, p, h1, h2 => by
    unfold suLoop
    rw [if_neg (by (first | lia | omega))]
  | f + 1, g + 1, h, p, h1, h2 => by
    unfold suLoop
    split
    · split
      · exact suLoop_fuel f g _ _ (by simp; (first | lia | omega)) (by simp; (first | lia | omega))
      · exact suLoop_fuel f g _ _ (by simp; (first | lia | omega)) (by simp; (first | lia | omega))
    · rfl
theorem suLoop_right {k f : Nat} {h : List Row} (hf : f = h.length - k) (h1 : 2 * k + 2 < h.length) (h2 : rowLt (h.getD (2 * k + 1) row0) (h.getD (2 * k + 2) row0) = false) :
    suLoop f h k = suLoop (h.length - (2 * k + 2)) (h.set k (h.getD (2 * k + 2) row0)) (2 * k + 2) := by
  obtain ⟨j, rfl⟩ : ∃ j, f = j + 1 := ⟨f - 1, by (first | lia | omega)⟩
  rw [suLoop, if_pos (by (first | lia | omega)), if_pos ⟨h1, h2⟩]
  exact suLoop_fuel _ _ _ _ (by simp; (first | lia | omega)) (by simp)
theorem suLoop_left {k f : Nat} {h : List Row} (hf : f = h.length - k) (h1 : 2 * k + 1 < h.length) (h2 : ¬ 2 * k + 2 < h.length ∨ rowLt (h.getD (2 * k + 1) row0) (h.getD (2 * k + 2) row0) = true) :
    suLoop f h k = suLoop (h.length - (2 * k + 1)) (h.set k (h.getD (2 * k + 1) row0)) (2 * k + 1) := by
  obtain ⟨j, rfl⟩ : ∃ j, f = j + 1 := ⟨f - 1, by (first | lia | omega)⟩
  rw [suLoop, if_pos h1, if_neg]
  · exact suLoop_fuel _ _ _ _ (by simp; (first | lia | omega)) (by simp)
  · rintro ⟨a, b⟩
    rcases h2 with h2 | h2
    · exact h2 a
    · rw [h2] at b; cases b
theorem suLoop_stop {k f : Nat} {h : List Row} (h1 : ¬ 2 * k + 1 < h.length) : suLoop f h k = (h, k) := by
  cases f with
  | zero => rfl
  | succ f => rw [suLoop, if_neg h1]
theorem suLoop_len : ∀ (f : Nat) (h : List Row) (k : Nat), (suLoop f h k).1.length = h.length
  | 0, h, k => rfl
  | f + 1, h, k => by
    rw [suLoop]
    split
    · split
      · rw [suLoop_len f]; simp
      · rw [suLoop_len f]; simp
    · rfl
theorem sdLoop_len {x : Row} {sp : Nat} : ∀ (f : Nat) (h : List Row) (k : Nat), (sdLoop x sp f h k).1.length = h.length
  | 0, h, k => rfl
  | f + 1, h, k => by
    rw [sdLoop]
    split
    · split
      · rw [sdLoop_len f]; simp
      · rfl
    · rfl
theorem siftdownP_len (rows : List Row) (sp p : Nat) : (siftdownP rows sp p).length = rows.length := by
  unfold siftdownP
  simp [sdLoop_len]
noncomputable def siftupP (rows : List Row) (p : Nat) : List Row :=
  let r := suLoop rows.length rows p
  siftdownP (r.1.set r.2 (rows.getD p row0)) p r.2
theorem siftupP_len (rows : List Row) (p : Nat) : (siftupP rows p).length = rows.length := by
  unfold siftupP
  simp [siftdownP_len, suLoop_len]
theorem siftupP_eq {rows h : List Row} {p k : Nat} (e : suLoop (rows.length - p) rows p = (h, k)) : siftupP rows p = siftdownP (h.set k (rows.getD p row0)) p k := by
  unfold siftupP
  rw [suLoop_fuel rows.length (rows.length - p) rows p (by (first | lia | omega)) (by (first | lia | omega)), e]
end HBx
section HRx
set_option maxRecDepth 100000
set_option maxHeartbeats 4000000
section
variable {prog : Program} {w : World} {A : Around} {E : Value → Shared → Prop} {s : Shared}
noncomputable def RevSmall (a b c : Int) : Prop := (Builtin.Range.rangeFitsLong a && Builtin.Range.rangeFitsLong b && Builtin.Range.rangeFitsLong c && Builtin.Range.rangeFitsLong (-c) && Builtin.Range.rangeFitsLong (a - c) && Builtin.Range.rangeFitsLong (Builtin.Range.rangeSize a b c)) = true
noncomputable def rangeIt (x left step : Int) : Obj := { cls := .type "range_iterator", data := .fields #[rawInt x, rawInt left, rawInt step] }
theorem sub_ri_reversed : isSubtype (.type "range_iterator") (.type "reversed") = pure false := by rw [isSubtype_type]; kernel_rfl
theorem call_range_reversed {r : Addr} {a b c : Int} {t u v : Tok} {Q : Value → Shared → Prop} (hr : IsRange s.heap r a b c t u v) (hsm : RevSmall a b c)
    (h : Q (.ref s.heap.objs.size) { s with heap := s.heap.push (rangeIt (a + (Builtin.Range.rangeSize a b c - 1) * c) (Builtin.Range.rangeSize a b c) (-c)) }) : wpAny (model prog w) A (call (.builtin "range.__reversed__") [.ref r]) Q E s := by
  have hT : s.TypeIs (.ref r) "range" := ⟨_, hr, rfl⟩
  refine wpAny_call_entry F.slot_range_reversed hT F.entry_range_reversed ?_ (F.args_range_reversed_1 _)
  unfold Builtin.«range.__reversed__»
  refine wpAny_bind (wpAny_of_eq (a := Value.ref r) rfl ?_)
  refine wpAny_bind ?_
  unfold Builtin.Range.rangeFields
  refine wpAny_bind (wpAny_field hr rfl (x := .int a t) rfl ?_)
  refine wpAny_bind (wpAny_of_eq (a := some a) rfl ?_)
  refine wpAny_bind (wpAny_field hr rfl (x := .int b u) rfl ?_)
  refine wpAny_bind (wpAny_of_eq (a := some b) rfl ?_)
  refine wpAny_bind (wpAny_field hr rfl (x := .int c v) rfl ?_)
  refine wpAny_bind (wpAny_of_eq (a := some c) rfl ?_)
  refine wpAny_pure ?_
  unfold RevSmall at hsm
  simp only [hsm, Bool.not_true, Bool.false_eq_true, if_false, if_true]
  exact wpAny_bind (wpAny_newObj_type (wpAny_pure ⟨_, rfl, h⟩))
theorem code_reversed_range {r : Addr} {a b c : Int} {t u v : Tok} {Q₁ : Value → Shared → Prop} (hr : IsRange s.heap r a b c t u v) (hsm : RevSmall a b c)
    (h : Q₁ (.ref s.heap.objs.size) { s with heap := s.heap.push (rangeIt (a + (Builtin.Range.rangeSize a b c - 1) * c) (Builtin.Range.rangeSize a b c) (-c)) }) :
    codeAny (model prog w) A (.call (.builtin "reversed.__new__") ⟨[.type "reversed", .ref r], []⟩) (wants Q₁ E) s := by
  have hT : s.TypeIs (.ref r) "range" := ⟨_, hr, rfl⟩
  refine codeAny_of_tree ?_
  show wpAny _ A.in1 (do checkBuiltinCall "reversed.__new__" ⟨[.type "reversed", .ref r], []⟩; again (.builtin "reversed.__new__" ⟨[.type "reversed", .ref r], []⟩)) _ _ s
  refine wpAny_bind (wpAny_of_eq (F.newCall_reversed_1 _) (wpAny_pure ⟨plainId_quiet F.plain_reversed_new _, codeAny_builtin F.entry_reversed_new ?_⟩))
  rw [Around.under_plainId F.plain_reversed_new _]
  unfold Builtin.«reversed.__new__»
  refine wpAny_bind (wpAny_of_eq (newClass_reversed _) ?_)
  try dsimp only
  refine wpAny_bind (wpAny_of_eq (a := ()) (by first | rfl | kernel_rfl) ?_)
  refine wpAny_bind (wpAny_of_eq (a := ()) (by first | rfl | kernel_rfl) ?_)
  try dsimp only
  refine wpAny_bind (wpAny_specialOf hT F.slot_range_reversed.lookup ?_)
  try dsimp only
  refine wpAny_bind (wpAny_of_eq (F.slot_range_reversed.bind _) ?_)
  try dsimp only
  first
  | rw [if_neg (show ¬ ((Value.builtin "range.__reversed__" == Value.none) = true) from Bool.false_ne_true)]
  | (show wpAny _ _ (if (Value.builtin "range.__reversed__" == Value.none) = true then _ else _) _ _ _; rw [if_neg (show ¬ ((Value.builtin "range.__reversed__" == Value.none) = true) from Bool.false_ne_true)])
  refine wpAny_bind (wpAny_rule ?_)
  refine wpAny_bind (m := runValue (.call (.builtin "range.__reversed__") ⟨[.ref r], []⟩)) (show wpAny _ _ (call (.builtin "range.__reversed__") [.ref r]) _ _ _ from call_range_reversed hr hsm ?_)
  first
  | exact wpAny_pure h
  | exact wpAny_bind (wpAny_pure (wpAny_pure h))
theorem call_reversed_range {r : Addr} {a b c : Int} {t u v : Tok} {Q : Value → Shared → Prop} (hr : IsRange s.heap r a b c t u v) (hsm : RevSmall a b c)
    (h : Q (.ref s.heap.objs.size) { s with heap := s.heap.push (rangeIt (a + (Builtin.Range.rangeSize a b c - 1) * c) (Builtin.Range.rangeSize a b c) (-c)) }) : wpAny (model prog w) A (call (.type "reversed") [.ref r]) Q E s := by
  refine callType_other (U := "range_iterator") (Q₁ := fun obj s₁ => obj = .ref s.heap.objs.size ∧ s₁ = { s with heap := s.heap.push (rangeIt (a + (Builtin.Range.rangeSize a b c - 1) * c) (Builtin.Range.rangeSize a b c) (-c)) }) (by decide +kernel) F.create_reversed ⟨_, _, F.mro_reversed⟩ F.made_reversed sub_ri_reversed (F.typeCall_reversed_1 _) (code_reversed_range hr hsm ⟨rfl, rfl⟩) ?_
  rintro obj s₁ ⟨rfl, rfl⟩
  exact ⟨⟨_, Heap.get?_push_size _ rfl, rfl⟩, h⟩
theorem rev_loop {env : Env} {h₀ : Heap} {x : Str} {body : List Stmt} {Q : Flow → Shared → Prop} {I : Addr} {k : Nat} {m₀ : Str → Option Value} {news : List (Addr × Obj)} (J : Nat → (Str → Option Value) → List (Addr × Obj) → Prop)
    (hh : A.handled = none) (hI : IsRangeIter s.heap I (0 + ((k : Int) - 1) * 1) (k : Int) (-1)) (hIL : env.locals ≠ I) (hI0 : h₀.get? I = none) (hnI : ∀ p ∈ news, p.1 ≠ I)
    (F : Fr h₀ env.locals s.heap m₀) (N : News h₀ env.locals s.heap news) (hj : J 0 m₀ news)
    (turn : ∀ i t m₁ nx h tk own, i < k → OwnOff own (nx.map (·.1)) → J i m₁ nx → Fr h₀ env.locals h (fun y => if y = x then some (.int ((k - 1 - i : Nat) : Int) t) else m₁ y) → News h₀ env.locals h (nx ++ own) →
      wpAny (model prog w) A (execs body env) (InvPostG h₀ env.locals (J (i + 1)) own { s with heap := h, toks := tk } Q) E { s with heap := h, toks := tk })
    (done : ∀ m₁ nx h tk, J k m₁ nx → Fr h₀ env.locals h m₁ → News h₀ env.locals h nx → Q .next { s with heap := h, toks := tk }) :
    LoopAtV prog w A h₀ env x body Q E (.ref I) s := by
  refine kdr_loop J (Walks.range hh I (0 + ((k : Int) - 1) * 1) (-1) k) (fun _ h => h) (fun _ h => h) ?_ (by simpa using hIL) (by simpa using hI0) (by simpa using fun a b hp => hnI (a, b) hp) (by simpa using hI) F N hj ?_ done
  · intro i h st b hb
    rw [List.mem_singleton.mp hb]
    exact ⟨_, st⟩
  · rintro i v m₁ nx h tk own hi ⟨t, rfl⟩ hoff hJ F₁ N₁
    have e : 0 + ((k : Int) - 1) * 1 + (i : Int) * (-1) = ((k - 1 - i : Nat) : Int) := by omega
    rw [e] at F₁
    exact turn i t m₁ nx h tk own hi hoff hJ F₁ N₁
end
noncomputable def hpLoop : Nat → List Row → List Row
  | 0, h => h
  | k + 1, h => hpLoop k (siftupP h k)
noncomputable def heappopP (rows : List Row) : Row × List Row :=
  if rows.length ≤ 1 then (rows.getD (rows.length - 1) row0, []) else (rows.getD 0 row0, siftupP (rows.dropLast.set 0 (rows.getD (rows.length - 1) row0)) 0)
noncomputable def heapifyP (rows : List Row) : List Row := hpLoop (rows.length / 2) rows
end HRx
local macro_rules | `(tactic| walk_at "mine in") => `(tactic| (intro g' L' h' FG' F' N' B' X' T'; (try dsimp only); (try k_lift B'); (try k_fold)))
local macro_rules | `(tactic| walk_at "mine cells") => `(tactic| (intro g' L' h' tk' cells' FG' F' N' Y' B' X' T' l1; (try k_lt l1); k_cells Y'; (try simp only [List.cons_append, List.nil_append] at N'); (try dsimp only); (try k_lift B'); (try k_fold)))
local macro_rules | `(tactic| k_all) => `(tactic| with_reducible assumption)
section HSx
set_option maxRecDepth 100000
set_option maxHeartbeats 8000000
theorem fill0 : (fun (_ : OpenLaw) (_ : Params → Frag) => True) Challenge.rw_nq0079_01 hd.heap_39 := by
  w_top off
  k_fill
  trivial
noncomputable abbrev prog : Program := Challenge.rw_nq0079_01.row.prog
noncomputable abbrev LS : List Str := looseW hd.view_39 [Str.ofString "b2a_base64", Str.ofString "b64encode", Str.ofString "_filemode_table"]
noncomputable abbrev Ar (d u : Nat) (envs : List Env) : Around := ⟨none, d, some envs, some [], u⟩
inductive SdI (nw rest : List (Addr × Obj)) (rows : List Row) (l n : Nat) (sp p : Nat) (t1 : Tok) (a1 : Addr) (k : Nat) (m1 : Str → Option Value) (nx : List (Addr × Obj)) : Prop
  | mk (vs' : List Value) (rows' : List Row) (p' : Nat) (h1 : nx = (l, listOf vs'.toArray n) :: rest) (h2 : RowsIn nw vs' rows') (h3 : rows'.length = rows.length) (h4 : p' < rows.length) (h5 : k = p')
    (h6 : sdLoop (rows.getD p row0) sp p' rows' p' = sdLoop (rows.getD p row0) sp p rows p)
    (h7 : m1 (Str.ofString "heap") = some (Value.ref l)) (h8 : m1 (Str.ofString "startpos") = some (Value.int sp t1)) (h9 : ∃ t', m1 (Str.ofString "pos") = some (Value.int p' t')) (h10 : m1 (Str.ofString "newitem") = some (Value.ref a1))
inductive SuI (nw rest : List (Addr × Obj)) (rows : List Row) (l n : Nat) (p : Nat) (t2 : Tok) (a1 : Addr) (k : Nat) (m1 : Str → Option Value) (nx : List (Addr × Obj)) : Prop
  | mk (vs' : List Value) (rows' : List Row) (p' : Nat) (h1 : nx = (l, listOf vs'.toArray n) :: rest) (h2 : RowsIn nw vs' rows') (h3 : rows'.length = rows.length) (h4 : p' < rows.length) (h5 : k = rows.length - p')
    (h6 : suLoop (rows'.length - p') rows' p' = suLoop (rows.length - p) rows p)
    (h7 : m1 (Str.ofString "heap") = some (Value.ref l)) (h8 : m1 (Str.ofString "startpos") = some (Value.int p t2)) (h9 : m1 (Str.ofString "newitem") = some (Value.ref a1)) (h10 : ∃ t', m1 (Str.ofString "endpos") = some (Value.int rows.length t')) (h11 : ∃ t', m1 (Str.ofString "pos") = some (Value.int p' t')) (h12 : ∃ t', m1 (Str.ofString "childpos") = some (Value.int (2 * p' + 1 : Nat) t'))
theorem siftdown_ok {w : World} {A₀ : Around} {base h₀ : Heap} {env : Env} {outer : List Env} {L : Addr} {m mg mb : Str → Option Value} {mean : ExcName → Option Value}
   {s : Shared} {l : Addr} {vs : List Value} {rows : List Row} {n : Nat} {nw rest : List (Addr × Obj)} {sp p : Nat} {t1 t2 : Tok} {Q : Value → Shared → Prop} {E : Value → Shared → Prop}
   (B : Below A₀ base outer h₀) (X : (hd.heap_39 w.params).In h₀) (T : Top hd.view_39 LS mean mg mb h₀) (F : Fr h₀ L s.heap m) (N : News h₀ L s.heap ((l, listOf vs.toArray n) :: rest))
   (hf : env.frame = some L) (hk : env.scope.kind = .function) (hR : RowsIn nw vs rows) (hnw : ∀ q ∈ nw, q ∈ rest) (hoff : ∀ q ∈ rest, q.1 ≠ l) (hp : p < rows.length) (hl : rows.length < 1000)
   (h : ∀ h' tk vs', Fr h₀ L h' m → News h₀ L h' ((l, listOf vs'.toArray n) :: rest) → RowsIn nw vs' (siftdownP rows sp p) → Q .none { s with heap := h', toks := tk }) :
   wpAny (model prog w) (Ar 305 16 (env :: outer)) (call (.ref 72) [.ref l, .int sp t1, .int p t2]) Q E s := by
  refine wpAny_call ?_
  k_with_none
  k_with "subscriptTail" => (k_here; (with_reducible show wpAny _ _ (subscriptTail _ _ (Value.ref _) (Value.int _ _)) _ _ _); k_dflt (refine' row_sub ?k1 ?k2 ?k3 ?k4 ?k5 ?k6 ?_ ?k7 ?k8; (case k1 => k_asm); (case k2 => k_mem); (case k3 => with_reducible assumption); (case k4 => (first | exact Int.natCast_nonneg _ | ((try simp only [shr1]); (first | lia | omega)))); (case k5 => (first | exact Int.ofNat_lt.mpr (by assumption) | ((try simp only [shr1]); (first | lia | omega)))); (case k6 => (first | assumption | ((try simp only [List.length_dropLast, List.length_set]); (first | lia | omega)))); (case k7 => with_unfolding_all rfl); (case k8 => intro _; with_unfolding_all rfl); k_whole); intro _ _ _ _ _ _)
  k_with "compareOp Lt ref ref" => (k_here; k_dflt (refine' lt_rowR ?k1 ?k5 ?k2 ?k3 ?k4 ?_; (case k1 => k_asm); (case k5 => with_reducible assumption); (case k2 => with_reducible assumption); (case k3 => with_reducible assumption); (case k4 => k_units); k_whole))
  k_with "setItem ref int" => (k_here; (with_reducible show wpAny _ _ (setItem (Value.ref _) (Value.int _ _) (Value.ref _)) _ _ _); k_dflt (refine' row_set ?k1 ?k2 ?k3 ?k4 ?k5 ?k6 ?k7 ?k8 ?_; (case k1 => k_asm); (case k2 => k_asm); (case k3 => k_upd); (case k4 => with_reducible assumption); (case k5 => exact ⟨_, _, _, _, rfl, by assumption⟩); (case k6 => (first | exact Int.natCast_nonneg _ | lia | omega)); (case k7 => (first | exact Int.ofNat_lt.mpr (by assumption) | lia | omega)); (case k8 => (first | assumption | ((try simp only [List.length_dropLast, List.length_set]); (first | lia | omega)))); k_whole); intro _ _ _ _; (try k_sweep))
  k_with "call builtin:len" => (k_here; (with_reducible show wpAny _ _ (call (Value.builtin _) [Value.ref _]) _ _ _); k_dflt (refine' row_len ?k1 ?k2 ?k3 ?k4 ?_; (case k1 => k_asm); (case k2 => k_mem); (case k3 => with_reducible assumption); (case k4 => (first | assumption | lia | omega)); k_whole))
  k_with "call builtin:list.pop" => (k_here; (with_reducible show wpAny _ _ (call (Value.builtin _) [Value.ref _]) _ _ _); k_dflt (refine' row_pop ?F ?N ?U ?i ?l ?z ?_; (case F => k_asm); (case N => k_asm); (case U => k_upd); (case i => with_reducible assumption); (case l => (first | assumption | lia | omega)); (case z => (first | assumption | lia | omega)); k_whole); intro _ _ _ _ _ _ _ _ _; (try k_sweep))
  k_with "truthy ref" => (k_here; (with_reducible show wpAny _ _ (truthy (Value.ref _)) _ _ _); k_dflt (refine' row_truthy ?N ?m ?i ?z ?_; (case N => k_asm); (case m => k_mem); (case i => with_reducible assumption); (case z => ((try simp only [List.length_dropLast]); (first | lia | omega))); k_whole))
  (refine' code_def ?k1 ?k2 ?k3 ?k4 ?k5 ?kA ?kF ?kK ?k6 ?k7 ?k8 ?k9 ?kB ?_ ?c2 ?c3 ?c4 ?c5; (case kA => exact rfl); (case kF => assumption); (case kK => assumption); (case k1 => k_asm); (case k2 => k_asm); (case k3 => k_asm); (case k4 => k_asm); (case k5 => k_asm); (case k6 => k_is); (case k7 => k_is); (case k8 => k_room); (case k9 => first | exact BindsTo.of_eq rfl | exact binds_K (by k_in) rfl (by k_is) rfl rfl rfl | fail "k_enter: no rule for these arguments"); (case c5 => decide); (case kB => exact locs rfl); (case c2 => exact rfl); (case c3 => exact rfl); (case c4 => exact rfl); k_whole; walk_at "mine in")
  (repeat' ((fail_if_success (with_reducible show wpAny _ _ (exec (Stmt.While _ _ _ _) _) _ _ _)); (fail_if_success (with_reducible show WhileStep2 _ _ _ _ _ _ _ _)); (first | (k_unfold; (try dsimp only)) | (k_end; wrow_close) | ((first | with_reducible k_extra "subscriptTail" | walk1); (all_goals try dsimp only)) | (dsimp only; (first | with_reducible k_extra "subscriptTail" | walk1)) | (leave1; walk_say "STEP leave1"; try dsimp only) | fail "no step")))
  rename_i g' L' h1 FG BG XG TG a1 u1 u2 u3 hv1 hm1 h2 F1 N1
  rw [Int.toNat_natCast] at hm1
  obtain ⟨J, hJ⟩ : ∃ J : Nat → (Str → Option Value) → List (Addr × Obj) → Prop, J = SdI nw rest rows l n sp p t1 a1 := ⟨_, rfl⟩
  refine While_inv2 J F1 N1 (by rw [hJ]; exact ⟨vs, rows, p, rfl, hR, rfl, hp, rfl, rfl, rfl, rfl, ⟨t2, rfl⟩, rfl⟩) ?_
  clear F1 N1
  intro k m1 nx h3 tk3 F3 N3 hj
  rw [hJ] at hj
  obtain ⟨vs', rows', p', rfl, hR', hl', hp', rfl, hE, q1, q2, ⟨t', q3⟩, q4⟩ := hj
  replace F3 := ((((Ov.nil F3).cons q1).cons q2).cons q3).cons q4 |>.fr
  (repeat' ((fail_if_success (with_reducible show wpAny _ _ (exec (Stmt.While _ _ _ _) _) _ _ _)); (fail_if_success (with_reducible show WhileStep2 _ _ _ _ _ _ _ _)); (first | (k_unfold; (try dsimp only)) | (k_end; wrow_close) | ((first | with_reducible k_extra "subscriptTail" | walk1); (all_goals try dsimp only)) | (dsimp only; (first | with_reducible k_extra "subscriptTail" | walk1)) | (leave1; walk_say "STEP leave1"; try dsimp only) | fail "no step")))
  · subst hJ
    dsimp only [WhileStep2]
    have e : ((((k : Int) - 1).fdiv (2 ^ Int.toNat 1))).toNat = (k - 1) / 2 := by rw [shr1]; (first | lia | omega)
    have e' : ((k : Int) - 1).fdiv (2 ^ Int.toNat 1) = (((k - 1) / 2 : Nat) : Int) := by rw [shr1]; (first | lia | omega)
    rename_i c1 _ _ _ _ _ _ _ _ c2 _ hR2 _ F9 N9
    rw [e, Int.toNat_natCast] at hR2
    rw [e] at c2
    rw [Int.toNat_natCast] at N9
    refine ⟨_, _, _, _, (k - 1) / 2, rfl, F9, N9, by (first | lia | omega), _, _, (k - 1) / 2, rfl, hR2, by simpa using hl', by (first | lia | omega), rfl, ?_, rfl, rfl, int_at rfl e', rfl⟩
    rw [← hE, sdLoop_go (by (first | lia | omega)) c2]
  · dsimp only  [WhileStep2]
    (repeat' ((fail_if_success (with_reducible show wpAny _ _ (exec (Stmt.While _ _ _ _) _) _ _ _)); (fail_if_success (with_reducible show WhileStep2 _ _ _ _ _ _ _ _)); (first | (k_unfold; (try dsimp only)) | (k_end; wrow_close) | ((first | with_reducible k_extra "subscriptTail" | walk1); (all_goals try dsimp only)) | (dsimp only; (first | with_reducible k_extra "subscriptTail" | walk1)) | (leave1; walk_say "STEP leave1"; try dsimp only) | fail "no step")))
    have e : ((((k : Int) - 1).fdiv (2 ^ Int.toNat 1))).toNat = (k - 1) / 2 := by rw [shr1]; (first | lia | omega)
    rename_i _ _ _ _ _ _ _ _ _ c2 _ _ _ hR2 F9 N9 _ _
    rw [e] at c2
    refine h _ _ _ F9 N9 ?_
    rw [Int.toNat_natCast] at hR2 ⊢
    rw [siftdownP_eq (hE.symm.trans (sdLoop_stop2 c2))]
    exact hR2
  · rename_i c1 _ _ _ hR2 F9 N9 _ _
    refine h _ _ _ F9 N9 ?_
    rw [Int.toNat_natCast] at hR2 ⊢
    rw [siftdownP_eq (hE.symm.trans (sdLoop_stop1 (by (first | lia | omega))))]
    exact hR2
theorem siftup_ok {w : World} {A₀ : Around} {base h₀ : Heap} {env : Env} {outer : List Env} {L : Addr} {m mg mb : Str → Option Value} {mean : ExcName → Option Value}
   {s : Shared} {l : Addr} {vs : List Value} {rows : List Row} {n : Nat} {nw rest : List (Addr × Obj)} {p : Nat} {t2 : Tok} {Q : Value → Shared → Prop} {E : Value → Shared → Prop}
   (B : Below A₀ base outer h₀) (X : (hd.heap_39 w.params).In h₀) (T : Top hd.view_39 LS mean mg mb h₀) (F : Fr h₀ L s.heap m) (N : News h₀ L s.heap ((l, listOf vs.toArray n) :: rest))
   (hf : env.frame = some L) (hk : env.scope.kind = .function) (hR : RowsIn nw vs rows) (hnw : ∀ q ∈ nw, q ∈ rest) (hoff : ∀ q ∈ rest, q.1 ≠ l) (hp : p < rows.length) (hl : rows.length < 1000)
   (h : ∀ h' tk vs', Fr h₀ L h' m → News h₀ L h' ((l, listOf vs'.toArray n) :: rest) → RowsIn nw vs' (siftupP rows p) → Q .none { s with heap := h', toks := tk }) :
   wpAny (model prog w) (Ar 304 13 (env :: outer)) (call (.ref 79) [.ref l, .int p t2]) Q E s := by
  refine wpAny_call ?_
  k_with_none
  k_with "subscriptTail" => (k_here; (with_reducible show wpAny _ _ (subscriptTail _ _ (Value.ref _) (Value.int _ _)) _ _ _); k_dflt (refine' row_sub ?k1 ?k2 ?k3 ?k4 ?k5 ?k6 ?_ ?k7 ?k8; (case k1 => k_asm); (case k2 => k_mem); (case k3 => with_reducible assumption); (case k4 => (first | exact Int.natCast_nonneg _ | ((try simp only [shr1]); (first | lia | omega)))); (case k5 => (first | exact Int.ofNat_lt.mpr (by assumption) | ((try simp only [shr1]); (first | lia | omega)))); (case k6 => (first | assumption | ((try simp only [List.length_dropLast, List.length_set]); (first | lia | omega)))); (case k7 => with_unfolding_all rfl); (case k8 => intro _; with_unfolding_all rfl); k_whole); intro _ _ _ _ _ _)
  k_with "compareOp Lt ref ref" => (k_here; k_dflt (refine' lt_rowR ?k1 ?k5 ?k2 ?k3 ?k4 ?_; (case k1 => k_asm); (case k5 => with_reducible assumption); (case k2 => with_reducible assumption); (case k3 => with_reducible assumption); (case k4 => k_units); k_whole))
  k_with "setItem ref int" => (k_here; (with_reducible show wpAny _ _ (setItem (Value.ref _) (Value.int _ _) (Value.ref _)) _ _ _); k_dflt (refine' row_set ?k1 ?k2 ?k3 ?k4 ?k5 ?k6 ?k7 ?k8 ?_; (case k1 => k_asm); (case k2 => k_asm); (case k3 => k_upd); (case k4 => with_reducible assumption); (case k5 => exact ⟨_, _, _, _, rfl, by assumption⟩); (case k6 => (first | exact Int.natCast_nonneg _ | lia | omega)); (case k7 => (first | exact Int.ofNat_lt.mpr (by assumption) | lia | omega)); (case k8 => (first | assumption | ((try simp only [List.length_dropLast, List.length_set]); (first | lia | omega)))); k_whole); intro _ _ _ _; (try k_sweep))
  k_with "call builtin:len" => (k_here; (with_reducible show wpAny _ _ (call (Value.builtin _) [Value.ref _]) _ _ _); k_dflt (refine' row_len ?k1 ?k2 ?k3 ?k4 ?_; (case k1 => k_asm); (case k2 => k_mem); (case k3 => with_reducible assumption); (case k4 => (first | assumption | lia | omega)); k_whole))
  k_with "call builtin:list.pop" => (k_here; (with_reducible show wpAny _ _ (call (Value.builtin _) [Value.ref _]) _ _ _); k_dflt (refine' row_pop ?F ?N ?U ?i ?l ?z ?_; (case F => k_asm); (case N => k_asm); (case U => k_upd); (case i => with_reducible assumption); (case l => (first | assumption | lia | omega)); (case z => (first | assumption | lia | omega)); k_whole); intro _ _ _ _ _ _ _ _ _; (try k_sweep))
  k_with "truthy ref" => (k_here; (with_reducible show wpAny _ _ (truthy (Value.ref _)) _ _ _); k_dflt (refine' row_truthy ?N ?m ?i ?z ?_; (case N => k_asm); (case m => k_mem); (case i => with_reducible assumption); (case z => ((try simp only [List.length_dropLast]); (first | lia | omega))); k_whole))
  k_with "call ref" => (k_here; (with_reducible show wpAny _ _ (call (Value.ref 72) _ _) _ _ _); k_dflt (refine' siftdown_ok ?k1 ?k2 ?k3 ?k4 ?k5 ?k6 ?k7 ?k8 ?kN ?k9 ?kA ?kB ?_; (case k1 => k_asm); (case k2 => k_asm); (case k3 => k_asm); (case k4 => k_asm); (case k5 => k_asm); (case k6 => exact rfl); (case k7 => exact rfl); (case k8 => with_reducible assumption); (case kN => with_reducible assumption); (case k9 => with_reducible assumption); (case kA => ((try simp only [List.length_set]); (first | lia | omega))); (case kB => ((try simp only [List.length_set]); (first | lia | omega))); k_whole); intro _ _ _ _ _ _; (try k_sweep))
  (refine' code_def ?k1 ?k2 ?k3 ?k4 ?k5 ?kA ?kF ?kK ?k6 ?k7 ?k8 ?k9 ?kB ?_ ?c2 ?c3 ?c4 ?c5; (case kA => exact rfl); (case kF => assumption); (case kK => assumption); (case k1 => k_asm); (case k2 => k_asm); (case k3 => k_asm); (case k4 => k_asm); (case k5 => k_asm); (case k6 => k_is); (case k7 => k_is); (case k8 => k_room); (case k9 => first | exact BindsTo.of_eq rfl | exact binds_K (by k_in) rfl (by k_is) rfl rfl rfl | fail "k_enter: no rule for these arguments"); (case c5 => decide); (case kB => exact locs rfl); (case c2 => exact rfl); (case c3 => exact rfl); (case c4 => exact rfl); k_whole; walk_at "mine in")
  have hvl := hR.1
  (repeat' ((fail_if_success (with_reducible show wpAny _ _ (exec (Stmt.While _ _ _ _) _) _ _ _)); (fail_if_success (with_reducible show WhileStep2 _ _ _ _ _ _ _ _)); (first | (k_unfold; (try dsimp only)) | (k_end; wrow_close) | ((first | with_reducible k_extra "subscriptTail" | walk1); (all_goals try dsimp only)) | (dsimp only; (first | with_reducible k_extra "subscriptTail" | walk1)) | (leave1; walk_say "STEP leave1"; try dsimp only) | fail "no step")))
  rename_i g' L' h1 FG BG XG TG _ _ _ _ a1 u1 u2 u3 hv1 hm1 _ _ h2 F1 N1
  rw [Int.toNat_natCast] at hm1
  obtain ⟨J, hJ⟩ : ∃ J : Nat → (Str → Option Value) → List (Addr × Obj) → Prop, J = SuI nw rest rows l n p t2 a1 := ⟨_, rfl⟩
  refine While_inv2 J
    F1 N1 (by rw [hJ]; exact ⟨vs, rows, p, rfl, hR, rfl, hp, rfl, rfl, rfl, rfl, rfl, ⟨_, rfl⟩, ⟨t2, rfl⟩, int_at rfl (by (first | lia | omega))⟩) ?_
  clear F1 N1
  intro k m1 nx h3 tk3 F3 N3 hj
  rw [hJ] at hj
  obtain ⟨vs', rows', p', rfl, hR', hl', hp', rfl, hE, q1, q2, q3, ⟨t4, q4⟩, ⟨t5, q5⟩, ⟨t6, q6⟩⟩ := hj
  replace F3 := ((((((Ov.nil F3).cons q1).cons q2).cons q3).cons q4).cons q5).cons q6 |>.fr
  (repeat' ((fail_if_success (with_reducible show wpAny _ _ (exec (Stmt.While _ _ _ _) _) _ _ _)); (fail_if_success (with_reducible show WhileStep2 _ _ _ _ _ _ _ _)); (first | (k_unfold; (try dsimp only)) | (k_end; wrow_close) | ((first | with_reducible k_extra "subscriptTail" | walk1); (all_goals try dsimp only)) | (dsimp only; (first | with_reducible k_extra "subscriptTail" | walk1)) | (leave1; walk_say "STEP leave1"; try dsimp only) | fail "no step")))
  · subst hJ
    dsimp only [WhileStep2]
    rename_i _ _ _ _ _ _ _ _ _ _ _ _ _ _ _ c2 _ _ _ _ _ _ _ hR2 _ _ _ F9 N9
    have e1 : ((2 * p' + 1 : Nat) : Int).toNat = 2 * p' + 1 := by (first | lia | omega)
    have e2 : (((2 * p' + 1 : Nat) : Int) + 1).toNat = 2 * p' + 2 := by (first | lia | omega)
    rw [e1, Int.toNat_natCast] at hR2
    rw [e1, e2] at c2
    rw [Int.toNat_natCast] at N9
    refine ⟨_, _, _, _, rows.length - (2 * p' + 1), rfl, F9, N9, by (first | lia | omega), _, _, 2 * p' + 1, rfl, hR2, by simpa using hl', by (first | lia | omega), rfl, ?_, rfl, rfl, rfl, ⟨_, rfl⟩, ⟨_, rfl⟩, int_at rfl (by (first | lia | omega))⟩
    rw [List.length_set]
    exact (suLoop_left rfl (by (first | lia | omega)) (.inr c2)).symm.trans hE
  · subst hJ
    dsimp only [WhileStep2]
    rename_i _ _ _ _ _ _ _ _ _ _ _ _ _ _ _ c2 _ _ _ _ _ _ _ _ _ hR2 _ _ _ F9 N9
    have e1 : ((2 * p' + 1 : Nat) : Int).toNat = 2 * p' + 1 := by (first | lia | omega)
    have e2 : (((2 * p' + 1 : Nat) : Int) + 1).toNat = 2 * p' + 2 := by (first | lia | omega)
    rw [e2, Int.toNat_natCast] at hR2
    rw [e1, e2] at c2
    rw [Int.toNat_natCast] at N9
    refine ⟨_, _, _, _, rows.length - (2 * p' + 2), rfl, F9, N9, by (first | lia | omega), _, _, 2 * p' + 2, rfl, hR2, by simpa using hl', by (first | lia | omega), rfl, ?_, rfl, rfl, rfl, ⟨_, rfl⟩, int_at rfl (by (first | lia | omega)), int_at rfl (by (first | lia | omega))⟩
    rw [List.length_set]
    exact (suLoop_right rfl (by (first | lia | omega)) c2).symm.trans hE
  · subst hJ
    dsimp only [WhileStep2]
    rename_i hR2 _ _ _ F9 N9
    have e1 : ((2 * p' + 1 : Nat) : Int).toNat = 2 * p' + 1 := by (first | lia | omega)
    rw [e1, Int.toNat_natCast] at hR2
    rw [Int.toNat_natCast] at N9
    refine ⟨_, _, _, _, rows.length - (2 * p' + 1), rfl, F9, N9, by (first | lia | omega), _, _, 2 * p' + 1, rfl, hR2, by simpa using hl', by (first | lia | omega), rfl, ?_, rfl, rfl, rfl, ⟨_, rfl⟩, ⟨_, rfl⟩, int_at rfl (by (first | lia | omega))⟩
    rw [List.length_set]
    exact (suLoop_left rfl (by (first | lia | omega)) (.inl (by (first | lia | omega)))).symm.trans hE
  · rename_i c1 _ _ _ _ vs2 _ _ hR2 F9 N9 _ _
    refine h _ _ _ F9 N9 ?_
    rw [Int.toNat_natCast] at hR2
    rw [siftupP_eq (hE.symm.trans (suLoop_stop (by (first | lia | omega))))]
    exact hR2
end HSx
section HHx
set_option maxRecDepth 100000
set_option maxHeartbeats 8000000
theorem fill1 : (fun (_ : OpenLaw) (_ : Params → Frag) => True) Challenge.rw_nq0079_01 hd.heap_39 := by
  w_top off
  k_fill
  trivial
inductive HyI (nw rest : List (Addr × Obj)) (l n : Nat) (rows : List Row) (i : Nat) (m1 : Str → Option Value) (nx : List (Addr × Obj)) : Prop
  | mk (vs' : List Value) (rows' : List Row) (a1 : nx = (l, listOf vs'.toArray n) :: rest) (a2 : RowsIn nw vs' rows') (a3 : rows'.length = rows.length) (a4 : hpLoop (rows.length / 2 - i) rows' = hpLoop (rows.length / 2) rows) (a5 : m1 (Str.ofString "x") = some (Value.ref l))
theorem heapify_ok {w : World} {A₀ : Around} {base h₀ : Heap} {env : Env} {outer : List Env} {L : Addr} {m mg mb : Str → Option Value} {mean : ExcName → Option Value}
   {s : Shared} {l : Addr} {vs : List Value} {rows : List Row} {n : Nat} {nw rest : List (Addr × Obj)} {Q : Value → Shared → Prop} {E : Value → Shared → Prop}
   (B : Below A₀ base outer h₀) (X : (hd.heap_39 w.params).In h₀) (T : Top hd.view_39 LS mean mg mb h₀) (F : Fr h₀ L s.heap m) (N : News h₀ L s.heap ((l, listOf vs.toArray n) :: rest))
   (hf : env.frame = some L) (hk : env.scope.kind = .function) (hR : RowsIn nw vs rows) (hnw : ∀ q ∈ nw, q ∈ rest) (hoff : ∀ q ∈ rest, q.1 ≠ l) (hl : rows.length < 1000)
   (h : ∀ h' tk vs', Fr h₀ L h' m → News h₀ L h' ((l, listOf vs'.toArray n) :: rest) → RowsIn nw vs' (heapifyP rows) → Q .none { s with heap := h', toks := tk }) :
   wpAny (model prog w) (Ar 303 10 (env :: outer)) (call (.ref 65) [.ref l]) Q E s := by
  refine wpAny_call ?_
  k_with_none
  k_with "subscriptTail" => (k_here; (with_reducible show wpAny _ _ (subscriptTail _ _ (Value.ref _) (Value.int _ _)) _ _ _); k_dflt (refine' row_sub ?k1 ?k2 ?k3 ?k4 ?k5 ?k6 ?_ ?k7 ?k8; (case k1 => k_asm); (case k2 => k_mem); (case k3 => with_reducible assumption); (case k4 => (first | exact Int.natCast_nonneg _ | ((try simp only [shr1]); (first | lia | omega)))); (case k5 => (first | exact Int.ofNat_lt.mpr (by assumption) | ((try simp only [shr1]); (first | lia | omega)))); (case k6 => (first | assumption | ((try simp only [List.length_dropLast, List.length_set]); (first | lia | omega)))); (case k7 => with_unfolding_all rfl); (case k8 => intro _; with_unfolding_all rfl); k_whole); intro _ _ _ _ _ _)
  k_with "compareOp Lt ref ref" => (k_here; k_dflt (refine' lt_rowR ?k1 ?k5 ?k2 ?k3 ?k4 ?_; (case k1 => k_asm); (case k5 => with_reducible assumption); (case k2 => with_reducible assumption); (case k3 => with_reducible assumption); (case k4 => k_units); k_whole))
  k_with "setItem ref int" => (k_here; (with_reducible show wpAny _ _ (setItem (Value.ref _) (Value.int _ _) (Value.ref _)) _ _ _); k_dflt (refine' row_set ?k1 ?k2 ?k3 ?k4 ?k5 ?k6 ?k7 ?k8 ?_; (case k1 => k_asm); (case k2 => k_asm); (case k3 => k_upd); (case k4 => with_reducible assumption); (case k5 => exact ⟨_, _, _, _, rfl, by assumption⟩); (case k6 => (first | exact Int.natCast_nonneg _ | lia | omega)); (case k7 => (first | exact Int.ofNat_lt.mpr (by assumption) | lia | omega)); (case k8 => (first | assumption | ((try simp only [List.length_dropLast, List.length_set]); (first | lia | omega)))); k_whole); intro _ _ _ _; (try k_sweep))
  k_with "call builtin:len" => (k_here; (with_reducible show wpAny _ _ (call (Value.builtin _) [Value.ref _]) _ _ _); k_dflt (refine' row_len ?k1 ?k2 ?k3 ?k4 ?_; (case k1 => k_asm); (case k2 => k_mem); (case k3 => with_reducible assumption); (case k4 => (first | assumption | lia | omega)); k_whole))
  k_with "call builtin:list.pop" => (k_here; (with_reducible show wpAny _ _ (call (Value.builtin _) [Value.ref _]) _ _ _); k_dflt (refine' row_pop ?F ?N ?U ?i ?l ?z ?_; (case F => k_asm); (case N => k_asm); (case U => k_upd); (case i => with_reducible assumption); (case l => (first | assumption | lia | omega)); (case z => (first | assumption | lia | omega)); k_whole); intro _ _ _ _ _ _ _ _ _; (try k_sweep))
  k_with "truthy ref" => (k_here; (with_reducible show wpAny _ _ (truthy (Value.ref _)) _ _ _); k_dflt (refine' row_truthy ?N ?m ?i ?z ?_; (case N => k_asm); (case m => k_mem); (case i => with_reducible assumption); (case z => ((try simp only [List.length_dropLast]); (first | lia | omega))); k_whole))
  k_with "call ref" => (k_here; (with_reducible show wpAny _ _ (call (Value.ref 79) _ _) _ _ _); k_dflt (refine' siftup_ok ?k1 ?k2 ?k3 ?k4 ?k5 ?k6 ?k7 ?k8 ?kN ?k9 ?kA ?kB ?_; (case k1 => k_asm); (case k2 => k_asm); (case k3 => k_asm); (case k4 => k_asm); (case k5 => k_asm); (case k6 => exact rfl); (case k7 => exact rfl); (case k8 => with_reducible assumption); (case kN => with_reducible assumption); (case k9 => with_reducible assumption); (case kA => ((try simp only [List.length_set]); (first | lia | omega))); (case kB => ((try simp only [List.length_set]); (first | lia | omega))); k_whole); intro _ _ _ _ _ _; (try k_sweep))
  k_with "call ref" => (k_here; (with_reducible show wpAny _ _ (call (Value.ref 79) [_, Value.int 0 _] _) _ _ _); k_dflt (refine' siftup_ok (p := 0) ?k1 ?k2 ?k3 ?k4 ?k5 ?k6 ?k7 ?k8 ?kN ?k9 ?kA ?kB ?_; (case k1 => k_asm); (case k2 => k_asm); (case k3 => k_asm); (case k4 => k_asm); (case k5 => k_asm); (case k6 => exact rfl); (case k7 => exact rfl); (case k8 => with_reducible assumption); (case kN => with_reducible assumption); (case k9 => with_reducible assumption); (case kA => ((try simp only [List.length_set, List.length_dropLast] at *); (first | lia | omega))); (case kB => ((try simp only [List.length_set, List.length_dropLast] at *); (first | lia | omega))); k_whole); intro _ _ _ _ _ _; (try k_sweep))
  (refine' code_def ?k1 ?k2 ?k3 ?k4 ?k5 ?kA ?kF ?kK ?k6 ?k7 ?k8 ?k9 ?kB ?_ ?c2 ?c3 ?c4 ?c5; (case kA => exact rfl); (case kF => assumption); (case kK => assumption); (case k1 => k_asm); (case k2 => k_asm); (case k3 => k_asm); (case k4 => k_asm); (case k5 => k_asm); (case k6 => k_is); (case k7 => k_is); (case k8 => k_room); (case k9 => first | exact BindsTo.of_eq rfl | exact binds_K (by k_in) rfl (by k_is) rfl rfl rfl | fail "k_enter: no rule for these arguments"); (case c5 => decide); (case kB => exact locs rfl); (case c2 => exact rfl); (case c3 => exact rfl); (case c4 => exact rfl); k_whole; walk_at "mine in")
  have hvl := hR.1
  (repeat' ((fail_if_success (with_reducible show wpAny _ _ (exec (Stmt.While _ _ _ _) _) _ _ _)); (fail_if_success (with_reducible show WhileStep2 _ _ _ _ _ _ _ _)); (first | (k_unfold; (try dsimp only)) | (k_end; wrow_close) | (first | with_reducible k_extra "subscriptTail" | walk1) | (dsimp only; (first | with_reducible k_extra "subscriptTail" | walk1)) | (leave1; walk_say "STEP leave1"; try dsimp only) | fail "no step")))
  rename_i g' L' h1 FG BG XG TG h2 F1 N1 h3 tk3 t1 u1 v1 hr F2 N2 _
  have eq1 : ((rows.length : Int)).fdiv 2 = ((rows.length / 2 : Nat) : Int) := by rw [Int.fdiv_eq_ediv_of_nonneg _ (by decide)]; (first | lia | omega)
  rw [eq1] at hr
  have es : Builtin.Range.rangeSize 0 ((rows.length / 2 : Nat) : Int) 1 = ((rows.length / 2 : Nat) : Int) := by
    unfold Builtin.Range.rangeSize
    simp only [show ((1 : Int) > 0) by decide, if_true, Int.ediv_one]
    split <;> (first | lia | omega)
  have hsm : RevSmall 0 ((rows.length / 2 : Nat) : Int) 1 := by
    unfold RevSmall
    rw [es]
    simp only [Builtin.Range.rangeFitsLong, Bool.and_eq_true, decide_eq_true_eq]
    (first | lia | omega)
  refine call_reversed_range hr hsm ?_
  rw [es]
  refine wpAny_pyIter_rangeiter (x := 0 + (((rows.length / 2 : Nat) : Int) - 1) * 1) (left := ((rows.length / 2 : Nat) : Int)) (step := -1) (Heap.get?_push_size _ rfl) ?_
  clear F1 N1
  obtain ⟨J, hJ⟩ : ∃ J : Nat → (Str → Option Value) → List (Addr × Obj) → Prop, J = HyI nw rest l n rows := ⟨_, rfl⟩
  refine rev_loop (k := rows.length / 2) J
    rfl (Heap.get?_push_size _ rfl) (Nat.ne_of_lt F2.ns.lt) (next_is_new F2) (fun p hp => Nat.ne_of_lt (Heap.lt_size (N2 p hp).1)) (F2.push _) (fun p hp => ⟨Heap.get?_push_of_some _ (N2 p hp).1, (N2 p hp).2⟩) (by rw [hJ]; exact ⟨vs, rows, rfl, hR, rfl, rfl, rfl⟩) ?_ ?_
  · clear F2 N2
    rintro i t m1 nx h4 tk4 own hi hoff1 hj F3 N3
    rw [hJ] at hj
    obtain ⟨vs', rows', rfl, hR', hl', hE, q1⟩ := hj
    replace F3 := ((Ov.nil F3).cons (x := Str.ofString "x") ((if_neg (by decide)).trans q1)).fr
    have hnw1 : ∀ q ∈ nw, q ∈ rest ++ own := fun p hp => List.mem_append_left _ (hnw p hp)
    have hoff2 : ∀ q ∈ rest ++ own, q.1 ≠ l := by
      intro q hq
      rcases List.mem_append.mp hq with hq | hq
      · exact hoff q hq
      · exact hoff1 q hq l (by simp)
    have N4 : News g' L' h4 ((l, listOf vs'.toArray n) :: (rest ++ own)) := N3
    clear N3
    (repeat' ((fail_if_success (with_reducible show wpAny _ _ (exec (Stmt.While _ _ _ _) _) _ _ _)); (fail_if_success (with_reducible show WhileStep2 _ _ _ _ _ _ _ _)); (first | (k_unfold; (try dsimp only)) | (k_end; wrow_close) | (first | with_reducible k_extra "subscriptTail" | walk1) | (dsimp only; (first | with_reducible k_extra "subscriptTail" | walk1)) | (leave1; walk_say "STEP leave1"; try dsimp only) | fail "no step")))
    rename_i h5 tk5 vs5 F5 N5 hR5
    subst hJ
    refine InvEndG.intro F5 N5 (nx := (l, listOf vs5.toArray n) :: rest) ⟨vs5, _, rfl, hR5, ?_, ?_, rfl⟩ ?_ ?_ ?_
    · rw [siftupP_len]; exact hl'
    · rw [← hE]
      obtain ⟨j, hj⟩ : ∃ j, rows.length / 2 - i = j + 1 := ⟨rows.length / 2 - 1 - i, by (first | lia | omega)⟩
      have e2 : rows.length / 2 - (i + 1) = j := by (first | lia | omega)
      have e3 : rows.length / 2 - 1 - i = j := by (first | lia | omega)
      rw [hj, e2, e3]
      rfl
    · exact hoff1
    · intro p hp
      rcases List.mem_cons.mp hp with rfl | hp
      · exact .head _
      · exact .tail _ (List.mem_append_left _ hp)
    · intro p hp
      exact .tail _ (List.mem_append_right _ hp)
  · clear F2 N2
    rintro m1 nx h4 tk4 hj F3 N3
    rw [hJ] at hj
    obtain ⟨vs', rows', rfl, hR', hl', hE, q1⟩ := hj
    clear hJ J
    (repeat' ((fail_if_success (with_reducible show wpAny _ _ (exec (Stmt.While _ _ _ _) _) _ _ _)); (fail_if_success (with_reducible show WhileStep2 _ _ _ _ _ _ _ _)); (first | (k_unfold; (try dsimp only)) | (k_end; wrow_close) | (first | with_reducible k_extra "subscriptTail" | walk1) | (dsimp only; (first | with_reducible k_extra "subscriptTail" | walk1)) | (leave1; walk_say "STEP leave1"; try dsimp only) | fail "no step")))
    rename_i F5 N5 _ _
    refine h _ _ _ F5 N5 ?_
    rw [Nat.sub_self] at hE
    unfold heapifyP
    rw [← hE]
    exact hR'
theorem heappop_ok {w : World} {A₀ : Around} {base h₀ : Heap} {env : Env} {outer : List Env} {L : Addr} {m mg mb : Str → Option Value} {mean : ExcName → Option Value}
   {s : Shared} {l : Addr} {vs : List Value} {rows : List Row} {n : Nat} {nw rest : List (Addr × Obj)} {Q : Value → Shared → Prop} {E : Value → Shared → Prop}
   (B : Below A₀ base outer h₀) (X : (hd.heap_39 w.params).In h₀) (T : Top hd.view_39 LS mean mg mb h₀) (F : Fr h₀ L s.heap m) (N : News h₀ L s.heap ((l, listOf vs.toArray n) :: rest))
   (hf : env.frame = some L) (hk : env.scope.kind = .function) (hR : RowsIn nw vs rows) (hnw : ∀ q ∈ nw, q ∈ rest) (hoff : ∀ q ∈ rest, q.1 ≠ l) (hl : rows.length < 1000) (hne : 0 < rows.length)
   (h : ∀ h' tk vs' a t1 t2 t3, Fr h₀ L h' m → News h₀ L h' ((l, listOf vs'.toArray (n + 1)) :: rest) → RowsIn nw vs' (heappopP rows).2 → (a, tup3 (heappopP rows).1 t1 t2 t3) ∈ nw → Q (.ref a) { s with heap := h', toks := tk }) :
   wpAny (model prog w) (Ar 303 10 (env :: outer)) (call (.ref 58) [.ref l]) Q E s := by
  refine wpAny_call ?_
  k_with_none
  k_with "subscriptTail" => (k_here; (with_reducible show wpAny _ _ (subscriptTail _ _ (Value.ref _) (Value.int _ _)) _ _ _); k_dflt (refine' row_sub ?k1 ?k2 ?k3 ?k4 ?k5 ?k6 ?_ ?k7 ?k8; (case k1 => k_asm); (case k2 => k_mem); (case k3 => with_reducible assumption); (case k4 => (first | exact Int.natCast_nonneg _ | ((try simp only [shr1]); (first | lia | omega)))); (case k5 => (first | exact Int.ofNat_lt.mpr (by assumption) | ((try simp only [shr1]); (first | lia | omega)))); (case k6 => (first | assumption | ((try simp only [List.length_dropLast, List.length_set]); (first | lia | omega)))); (case k7 => with_unfolding_all rfl); (case k8 => intro _; with_unfolding_all rfl); k_whole); intro _ _ _ _ _ _)
  k_with "compareOp Lt ref ref" => (k_here; k_dflt (refine' lt_rowR ?k1 ?k5 ?k2 ?k3 ?k4 ?_; (case k1 => k_asm); (case k5 => with_reducible assumption); (case k2 => with_reducible assumption); (case k3 => with_reducible assumption); (case k4 => k_units); k_whole))
  k_with "setItem ref int" => (k_here; (with_reducible show wpAny _ _ (setItem (Value.ref _) (Value.int _ _) (Value.ref _)) _ _ _); k_dflt (refine' row_set ?k1 ?k2 ?k3 ?k4 ?k5 ?k6 ?k7 ?k8 ?_; (case k1 => k_asm); (case k2 => k_asm); (case k3 => k_upd); (case k4 => with_reducible assumption); (case k5 => exact ⟨_, _, _, _, rfl, by assumption⟩); (case k6 => (first | exact Int.natCast_nonneg _ | lia | omega)); (case k7 => (first | exact Int.ofNat_lt.mpr (by assumption) | lia | omega)); (case k8 => (first | assumption | ((try simp only [List.length_dropLast, List.length_set]); (first | lia | omega)))); k_whole); intro _ _ _ _; (try k_sweep))
  k_with "call builtin:len" => (k_here; (with_reducible show wpAny _ _ (call (Value.builtin _) [Value.ref _]) _ _ _); k_dflt (refine' row_len ?k1 ?k2 ?k3 ?k4 ?_; (case k1 => k_asm); (case k2 => k_mem); (case k3 => with_reducible assumption); (case k4 => (first | assumption | lia | omega)); k_whole))
  k_with "call builtin:list.pop" => (k_here; (with_reducible show wpAny _ _ (call (Value.builtin _) [Value.ref _]) _ _ _); k_dflt (refine' row_pop ?F ?N ?U ?i ?l ?z ?_; (case F => k_asm); (case N => k_asm); (case U => k_upd); (case i => with_reducible assumption); (case l => (first | assumption | lia | omega)); (case z => (first | assumption | lia | omega)); k_whole); intro _ _ _ _ _ _ _ _ _; (try k_sweep))
  k_with "truthy ref" => (k_here; (with_reducible show wpAny _ _ (truthy (Value.ref _)) _ _ _); k_dflt (refine' row_truthy ?N ?m ?i ?z ?_; (case N => k_asm); (case m => k_mem); (case i => with_reducible assumption); (case z => ((try simp only [List.length_dropLast]); (first | lia | omega))); k_whole))
  k_with "call ref" => (k_here; (with_reducible show wpAny _ _ (call (Value.ref 79) _ _) _ _ _); k_dflt (refine' siftup_ok ?k1 ?k2 ?k3 ?k4 ?k5 ?k6 ?k7 ?k8 ?kN ?k9 ?kA ?kB ?_; (case k1 => k_asm); (case k2 => k_asm); (case k3 => k_asm); (case k4 => k_asm); (case k5 => k_asm); (case k6 => exact rfl); (case k7 => exact rfl); (case k8 => with_reducible assumption); (case kN => with_reducible assumption); (case k9 => with_reducible assumption); (case kA => ((try simp only [List.length_set]); (first | lia | omega))); (case kB => ((try simp only [List.length_set]); (first | lia | omega))); k_whole); intro _ _ _ _ _ _; (try k_sweep))
  k_with "call ref" => (k_here; (with_reducible show wpAny _ _ (call (Value.ref 79) [_, Value.int 0 _] _) _ _ _); k_dflt (refine' siftup_ok (p := 0) ?k1 ?k2 ?k3 ?k4 ?k5 ?k6 ?k7 ?k8 ?kN ?k9 ?kA ?kB ?_; (case k1 => k_asm); (case k2 => k_asm); (case k3 => k_asm); (case k4 => k_asm); (case k5 => k_asm); (case k6 => exact rfl); (case k7 => exact rfl); (case k8 => with_reducible assumption); (case kN => with_reducible assumption); (case k9 => with_reducible assumption); (case kA => ((try simp only [List.length_set, List.length_dropLast] at *); (first | lia | omega))); (case kB => ((try simp only [List.length_set, List.length_dropLast] at *); (first | lia | omega))); k_whole); intro _ _ _ _ _ _; (try k_sweep))
  (refine' code_def ?k1 ?k2 ?k3 ?k4 ?k5 ?kA ?kF ?kK ?k6 ?k7 ?k8 ?k9 ?kB ?_ ?c2 ?c3 ?c4 ?c5; (case kA => exact rfl); (case kF => assumption); (case kK => assumption); (case k1 => k_asm); (case k2 => k_asm); (case k3 => k_asm); (case k4 => k_asm); (case k5 => k_asm); (case k6 => k_is); (case k7 => k_is); (case k8 => k_room); (case k9 => first | exact BindsTo.of_eq rfl | exact binds_K (by k_in) rfl (by k_is) rfl rfl rfl | fail "k_enter: no rule for these arguments"); (case c5 => decide); (case kB => exact locs rfl); (case c2 => exact rfl); (case c3 => exact rfl); (case c4 => exact rfl); k_whole; walk_at "mine in")
  have hvl := hR.1
  (repeat' ((fail_if_success (with_reducible show wpAny _ _ (exec (Stmt.While _ _ _ _) _) _ _ _)); (fail_if_success (with_reducible show WhileStep2 _ _ _ _ _ _ _ _)); (first | (k_unfold; (try dsimp only)) | (k_end; wrow_close) | (first | with_reducible k_extra "subscriptTail" | walk1) | (dsimp only; (first | with_reducible k_extra "subscriptTail" | walk1)) | (leave1; walk_say "STEP leave1"; try dsimp only) | fail "no step")))
  · rename_i hm1 _ c1 _ _ _ _ _ hm2 _ _ _ _ _ _ _ _ hR2 F9 N9 _ _
    simp only [List.length_dropLast] at c1
    have e1 : heappopP rows = (rows.getD 0 row0, siftupP (rows.dropLast.set 0 (rows.getD (rows.length - 1) row0)) 0) := by
      unfold heappopP
      rw [if_neg (by (first | lia | omega))]
    have e2 : rows.dropLast.getD (Int.toNat 0) row0 = rows.getD 0 row0 := by
      show rows.dropLast.getD 0 row0 = _
      simp only [List.getD_eq_getElem?_getD, List.getElem?_dropLast]
      rw [if_pos (by (first | lia | omega))]
    rw [e2] at hm2
    rw [e1] at h
    exact h _ _ _ _ _ _ _ F9 N9 hR2 hm2
  · rename_i hR1 hm1 _ _ _ c1 F9 N9 _ _
    simp only [List.length_dropLast] at c1
    have e1 : heappopP rows = (rows.getD (rows.length - 1) row0, []) := by
      unfold heappopP
      rw [if_pos (by (first | lia | omega))]
    have e2 : rows.dropLast = [] := by
      apply List.eq_nil_of_length_eq_zero
      rw [List.length_dropLast]
      (first | lia | omega)
    rw [e2] at hR1
    rw [e1] at h
    exact h _ _ _ _ _ _ _ F9 N9 hR1 hm1
end HHx
section HPx
set_option maxRecDepth 100000
set_option maxHeartbeats 4000000
/-! the order of rows -/
theorem str_ext {a b : Str} (h : a.cps.toList = b.cps.toList) : a = b := by
  cases a; cases b
  simp only [Str.mk.injEq]
  exact Array.toList_inj.mp h
theorem sl_irrefl (a : Str) : strLt a a = false := by
  unfold strLt
  exact decide_eq_false (List.lt_irrefl _)
theorem sl_trans {a b c : Str} (h1 : strLt a b = true) (h2 : strLt b c = true) : strLt a c = true := by
  unfold strLt at *
  simp only [decide_eq_true_eq] at *
  exact List.lt_trans h1 h2
theorem sl_tri {a b : Str} (h1 : strLt a b = false) (h2 : strLt b a = false) : a = b := by
  unfold strLt at *
  simp only [decide_eq_false_iff_not] at *
  exact str_ext (List.le_antisymm h2 h1)
theorem sl_asymm {a b : Str} (h1 : strLt a b = true) : strLt b a = false := by
  cases h : strLt b a with
  | false => rfl
  | true => have := sl_trans h1 h; rw [sl_irrefl] at this; cases this
theorem rl_irrefl (a : Row) : rowLt a a = false := by simp [rowLt]
theorem rl_trans {a b c : Row} (h1 : rowLt a b = true) (h2 : rowLt b c = true) : rowLt a c = true := by
  unfold rowLt at *
  by_cases e1 : a.w = b.w
  · rw [if_pos e1] at h1
    by_cases e2 : b.w = c.w
    · rw [if_pos e2] at h2
      rw [if_pos (e1.trans e2)]
      by_cases f1 : a.l = b.l
      · rw [if_pos f1] at h1
        by_cases f2 : b.l = c.l
        · rw [if_pos f2] at h2
          rw [if_pos (f1.trans f2)]
          simp only [decide_eq_true_eq] at *
          (first | lia | omega)
        · rw [if_neg f2] at h2
          rw [if_neg (by rw [f1]; exact f2), f1]
          exact h2
      · rw [if_neg f1] at h1
        by_cases f2 : b.l = c.l
        · rw [if_neg (by rw [← f2]; exact f1), ← f2]
          exact h1
        · rw [if_neg f2] at h2
          have h3 := sl_trans h1 h2
          rw [if_neg (by intro e; rw [e, sl_irrefl] at h3; cases h3)]
          exact h3
    · rw [if_neg e2] at h2
      rw [if_neg (by rw [e1]; exact e2), e1]
      exact h2
  · rw [if_neg e1] at h1
    by_cases e2 : b.w = c.w
    · rw [if_neg (by rw [← e2]; exact e1), ← e2]
      exact h1
    · rw [if_neg e2] at h2
      have h3 := sl_trans h1 h2
      rw [if_neg (by intro e; rw [e, sl_irrefl] at h3; cases h3)]
      exact h3
theorem rl_tri {a b : Row} (h1 : rowLt a b = false) (h2 : rowLt b a = false) : a = b := by
  unfold rowLt at *
  by_cases e1 : a.w = b.w
  · rw [if_pos e1] at h1
    rw [if_pos e1.symm] at h2
    by_cases f1 : a.l = b.l
    · rw [if_pos f1] at h1
      rw [if_pos f1.symm] at h2
      simp only [decide_eq_false_iff_not] at *
      cases a; cases b
      simp only [Row.mk.injEq] at *
      exact ⟨e1, f1, by (first | lia | omega)⟩
    · rw [if_neg f1] at h1
      rw [if_neg (Ne.symm f1)] at h2
      exact absurd (sl_tri h1 h2) f1
  · rw [if_neg e1] at h1
    rw [if_neg (Ne.symm e1)] at h2
    exact absurd (sl_tri h1 h2) e1
theorem rl_asymm {a b : Row} (h1 : rowLt a b = true) : rowLt b a = false := by
  cases h : rowLt b a with
  | false => rfl
  | true => have := rl_trans h1 h; rw [rl_irrefl] at this; cases this
/-- not greater -/
noncomputable def Le (a b : Row) : Prop := rowLt b a = false
theorem Le.refl (a : Row) : Le a a := rl_irrefl a
theorem Le.trans {a b c : Row} (h1 : Le a b) (h2 : Le b c) : Le a c := by
  unfold Le at *
  cases h : rowLt c a with
  | false => rfl
  | true =>
    cases h3 : rowLt a b with
    | true => have := rl_trans h h3; rw [this] at h2; cases h2
    | false =>
      have := rl_tri h3 h1
      subst this
      rw [h] at h2
      cases h2
theorem Le.of_lt {a b : Row} (h : rowLt a b = true) : Le a b := rl_asymm h
theorem Le.antisymm {a b : Row} (h1 : Le a b) (h2 : Le b a) : a = b := rl_tri h2 h1
/-! lists -/
theorem getD_set_self {h : List Row} {i : Nat} {x : Row} (hi : i < h.length) : (h.set i x).getD i row0 = x := by
  simp [List.getD_eq_getElem?_getD, hi]
theorem getD_set_ne {h : List Row} {i j : Nat} {x : Row} (hi : i ≠ j) : (h.set i x).getD j row0 = h.getD j row0 := by
  simp [List.getD_eq_getElem?_getD, List.getElem?_set, hi]
theorem swap_perm {h : List Row} {k c : Nat} {x : Row} (hk : k < h.length) (hc : c < h.length) (hne : k ≠ c) : ((h.set k (h.getD c row0)).set c x).Perm (h.set k x) := by
  have h1 : k < (h.set k x).length := by simpa using hk
  have h2 : c < (h.set k x).length := by simpa using hc
  have e1 : (h.set k x)[k] = x := by simp
  have e2 : (h.set k x)[c] = h.getD c row0 := by
    rw [List.getElem_set_ne hne]
    simp [List.getD_eq_getElem?_getD, hc]
  have := List.set_set_perm h1 h2
  rw [e1, e2, List.set_set] at this
  exact this
theorem set_self {h : List Row} {k : Nat} (hk : k < h.length) : h.set k (h.getD k row0) = h := by
  apply List.ext_getElem?
  intro j
  rw [List.getElem?_set]
  by_cases e : k = j
  · subst e
    simp [hk]
  · simp [e]
theorem sdLoop_perm {x : Row} {sp : Nat} : ∀ (f : Nat) (h : List Row) (p : Nat), p < h.length → ((sdLoop x sp f h p).1.set (sdLoop x sp f h p).2 x).Perm (h.set p x) ∧ (sdLoop x sp f h p).2 < h.length
  | 0, h, p, hp => ⟨.refl _, hp⟩
  | f + 1, h, p, hp => by
    rw [sdLoop]
    split
    · split
      · have ih := sdLoop_perm (x := x) (sp := sp) f (h.set p (h.getD ((p - 1) / 2) row0)) ((p - 1) / 2) (by rw [List.length_set]; (first | lia | omega))
        rw [List.length_set] at ih
        exact ⟨ih.1.trans (swap_perm hp (by (first | lia | omega)) (by (first | lia | omega))), ih.2⟩
      · exact ⟨.refl _, hp⟩
    · exact ⟨.refl _, hp⟩
theorem siftdownP_perm {rows : List Row} {sp p : Nat} (hp : p < rows.length) : (siftdownP rows sp p).Perm rows := by
  unfold siftdownP
  have := (sdLoop_perm (x := rows.getD p row0) (sp := sp) p rows p hp).1
  rw [set_self hp] at this
  exact this
theorem suLoop_perm {x : Row} : ∀ (f : Nat) (h : List Row) (p : Nat), p < h.length → ((suLoop f h p).1.set (suLoop f h p).2 x).Perm (h.set p x) ∧ (suLoop f h p).2 < h.length
  | 0, h, p, hp => ⟨.refl _, hp⟩
  | f + 1, h, p, hp => by
    rw [suLoop]
    split
    · rename_i h1
      split
      · rename_i h2
        have ih := suLoop_perm (x := x) f (h.set p (h.getD (2 * p + 2) row0)) (2 * p + 2) (by rw [List.length_set]; exact h2.1)
        rw [List.length_set] at ih
        exact ⟨ih.1.trans (swap_perm hp h2.1 (by (first | lia | omega))), ih.2⟩
      · have ih := suLoop_perm (x := x) f (h.set p (h.getD (2 * p + 1) row0)) (2 * p + 1) (by rw [List.length_set]; exact h1)
        rw [List.length_set] at ih
        exact ⟨ih.1.trans (swap_perm hp h1 (by (first | lia | omega))), ih.2⟩
    · exact ⟨.refl _, hp⟩
theorem siftupP_perm {rows : List Row} {p : Nat} (hp : p < rows.length) : (siftupP rows p).Perm rows := by
  unfold siftupP
  have h1 := suLoop_perm (x := rows.getD p row0) rows.length rows p hp
  rw [set_self hp] at h1
  have h2 : (suLoop rows.length rows p).2 < ((suLoop rows.length rows p).1.set (suLoop rows.length rows p).2 (rows.getD p row0)).length := by
    rw [List.length_set, suLoop_len]
    exact h1.2
  exact (siftdownP_perm h2).trans h1.1
theorem hpLoop_perm : ∀ (k : Nat) (rows : List Row), k ≤ rows.length → (hpLoop k rows).Perm rows
  | 0, rows, _ => .refl _
  | k + 1, rows, hk => by
    rw [hpLoop]
    exact (hpLoop_perm k (siftupP rows k) (by rw [siftupP_len]; (first | lia | omega))).trans (siftupP_perm (by (first | lia | omega)))
theorem heapifyP_perm (rows : List Row) : (heapifyP rows).Perm rows := hpLoop_perm _ _ (by (first | lia | omega))
theorem heapifyP_len (rows : List Row) : (heapifyP rows).length = rows.length := (heapifyP_perm rows).length_eq
theorem dropLast_perm {rows : List Row} (h : 0 < rows.length) : (rows.getD (rows.length - 1) row0 :: rows.dropLast).Perm rows := by
  have hne : rows ≠ [] := by intro e; rw [e] at h; cases h
  have e1 := List.dropLast_concat_getLast hne
  rw [List.getLast_eq_getElem] at e1
  have e2 : rows.getD (rows.length - 1) row0 = rows[rows.length - 1]'(by (first | lia | omega)) := by
    rw [List.getD_eq_getElem?_getD, List.getElem?_eq_getElem (by (first | lia | omega))]
    rfl
  rw [e2]
  have := List.perm_append_comm (l₁ := [rows[rows.length - 1]'(by (first | lia | omega))]) (l₂ := rows.dropLast)
  rw [e1] at this
  exact this
theorem set0_perm {r : List Row} {x : Row} (h : 0 < r.length) : (r.getD 0 row0 :: r.set 0 x).Perm (x :: r) := by
  cases r with
  | nil => cases h
  | cons a r =>
    show (a :: x :: r).Perm (x :: a :: r)
    exact List.Perm.swap _ _ _
theorem heappopP_perm {rows : List Row} (h : 0 < rows.length) : ((heappopP rows).1 :: (heappopP rows).2).Perm rows := by
  unfold heappopP
  split
  · have e : rows.dropLast = [] := by
      apply List.eq_nil_of_length_eq_zero
      rw [List.length_dropLast]; (first | lia | omega)
    have := dropLast_perm h
    rw [e] at this
    exact this
  · have h1 : 0 < rows.dropLast.length := by rw [List.length_dropLast]; (first | lia | omega)
    have e2 : rows.getD 0 row0 = rows.dropLast.getD 0 row0 := by
      simp only [List.getD_eq_getElem?_getD, List.getElem?_dropLast]
      rw [if_pos (by (first | lia | omega))]
    refine List.Perm.trans (List.Perm.cons _ (siftupP_perm (by rw [List.length_set]; exact h1))) ?_
    rw [e2]
    exact (set0_perm h1).trans (dropLast_perm h)
theorem heappopP_len {rows : List Row} (h : 0 < rows.length) : (heappopP rows).2.length = rows.length - 1 := by
  have := (heappopP_perm h).length_eq
  rw [List.length_cons] at this
  (first | lia | omega)
end HPx
section HQx
set_option maxRecDepth 100000
set_option maxHeartbeats 4000000
noncomputable def Child (i c : Nat) : Prop := c = 2 * i + 1 ∨ c = 2 * i + 2
inductive Desc (p : Nat) : Nat → Prop
  | self : Desc p p
  | kid {k c : Nat} : Desc p k → Child k c → Desc p c
theorem Desc.le {p k : Nat} (d : Desc p k) : p ≤ k := by
  induction d with
  | self => exact Nat.le_refl _
  | kid _ hc ih => rcases hc with rfl | rfl <;> (first | lia | omega)
theorem Desc.up {p k : Nat} (d : Desc p k) (h : p < k) : Desc p ((k - 1) / 2) := by
  cases d with
  | self => exact absurd h (Nat.lt_irrefl _)
  | @kid j c d hc =>
    have : (k - 1) / 2 = j := by rcases hc with rfl | rfl <;> (first | lia | omega)
    rw [this]
    exact d
noncomputable def Hp (p : Nat) (h : List Row) : Prop := ∀ i c, p ≤ i → Child i c → c < h.length → Le (h.getD i row0) (h.getD c row0)
structure Hole (p k : Nat) (h : List Row) : Prop where
  one : ∀ i c, p ≤ i → Child i c → c < h.length → i ≠ k → c ≠ k → Le (h.getD i row0) (h.getD c row0)
  two : ∀ i c, p ≤ i → Child i k → Child k c → c < h.length → Le (h.getD i row0) (h.getD c row0)
theorem Hole.set {p k : Nat} {h : List Row} {x : Row} (H : Hole p k h) : Hole p k (h.set k x) := by
  refine ⟨fun i c h1 h2 h3 h4 h5 => ?_, fun i c h1 h2 h3 h4 => ?_⟩
  · rw [getD_set_ne (Ne.symm h4), getD_set_ne (Ne.symm h5)]
    exact H.one i c h1 h2 (by simpa using h3) h4 h5
  · have e1 : k ≠ i := by rcases h2 with e | e <;> (first | lia | omega)
    have e2 : k ≠ c := by rcases h3 with e | e <;> (first | lia | omega)
    rw [getD_set_ne e1, getD_set_ne e2]
    exact H.two i c h1 h2 h3 (by simpa using h4)
/-- the hole goes down to the child c, the least of k's children -/
theorem Hole.down {p k c : Nat} {h : List Row} (H : Hole p k h) (hp : p ≤ k) (hk : k < h.length) (hc : Child k c) (hcl : c < h.length) (hmin : ∀ d, Child k d → d < h.length → Le (h.getD c row0) (h.getD d row0)) :
    Hole p c (h.set k (h.getD c row0)) := by
  have hkc : k < c := by rcases hc with e | e <;> (first | lia | omega)
  refine ⟨fun i d h1 h2 h3 h4 h5 => ?_, fun i d h1 h2 h3 h4 => ?_⟩
  · rw [List.length_set] at h3
    by_cases ei : i = k
    · subst ei
      have hd : i ≠ d := by rcases h2 with e | e <;> (first | lia | omega)
      rw [getD_set_self hk, getD_set_ne hd]
      exact hmin d h2 h3
    · by_cases ed : d = k
      · subst ed
        rw [getD_set_self hk, getD_set_ne (Ne.symm ei)]
        exact H.two i c h1 h2 hc hcl
      · rw [getD_set_ne (Ne.symm ei), getD_set_ne (Ne.symm ed)]
        exact H.one i d h1 h2 h3 ei ed
  · rw [List.length_set] at h4
    have ei : i = k := by rcases h2 with e | e <;> rcases hc with e' | e' <;> (first | lia | omega)
    subst ei
    have hd : i ≠ d := by rcases h3 with e | e <;> (first | lia | omega)
    rw [getD_set_self hk, getD_set_ne hd]
    exact H.one c d (by (first | lia | omega)) h3 h4 (by (first | lia | omega)) (by rcases h3 with e | e <;> (first | lia | omega))
theorem suLoop_hole {p : Nat} : ∀ (f : Nat) (h : List Row) (k : Nat), h.length - k ≤ f → Desc p k → Hole p k h → k < h.length →
    Hole p (suLoop f h k).2 (suLoop f h k).1 ∧ Desc p (suLoop f h k).2 ∧ ¬ 2 * (suLoop f h k).2 + 1 < h.length
  | 0, h, k, hf, d, H, hk => ⟨H, d, by show ¬ 2 * k + 1 < h.length; (first | lia | omega)⟩
  | f + 1, h, k, hf, d, H, hk => by
    rw [suLoop]
    by_cases h1 : 2 * k + 1 < h.length
    · rw [if_pos h1]
      by_cases h2 : 2 * k + 2 < h.length ∧ rowLt (h.getD (2 * k + 1) row0) (h.getD (2 * k + 2) row0) = false
      · rw [if_pos h2]
        have ih := suLoop_hole f (h.set k (h.getD (2 * k + 2) row0)) (2 * k + 2) (by rw [List.length_set]; (first | lia | omega)) (d.kid (.inr rfl))
          (H.down d.le hk (.inr rfl) h2.1 (by
            intro e he hel
            rcases he with rfl | rfl
            · exact h2.2
            · exact Le.refl _)) (by rw [List.length_set]; exact h2.1)
        rw [List.length_set] at ih
        exact ih
      · rw [if_neg h2]
        have ih := suLoop_hole f (h.set k (h.getD (2 * k + 1) row0)) (2 * k + 1) (by rw [List.length_set]; (first | lia | omega)) (d.kid (.inl rfl))
          (H.down d.le hk (.inl rfl) h1 (by
            intro e he hel
            rcases he with rfl | rfl
            · exact Le.refl _
            · cases h3 : rowLt (h.getD (2 * k + 1) row0) (h.getD (2 * k + 2) row0) with
              | true => exact Le.of_lt h3
              | false => exact absurd ⟨hel, h3⟩ h2)) (by rw [List.length_set]; exact h1)
        rw [List.length_set] at ih
        exact ih
    · rw [if_neg h1]
      exact ⟨H, d, h1⟩
theorem Hole.fill {p k : Nat} {h : List Row} {x : Row} (H : Hole p k h) (hk : k < h.length) (h3 : ∀ c, Child k c → c < h.length → Le x (h.getD c row0)) (h4 : ∀ i, p ≤ i → Child i k → Le (h.getD i row0) x) : Hp p (h.set k x) := by
  intro i c h1 h2 hc
  rw [List.length_set] at hc
  by_cases ei : i = k
  · subst ei
    have : i ≠ c := by rcases h2 with e | e <;> (first | lia | omega)
    rw [getD_set_self hk, getD_set_ne this]
    exact h3 c h2 hc
  · by_cases ec : c = k
    · subst ec
      rw [getD_set_self hk, getD_set_ne (Ne.symm ei)]
      exact h4 i h1 h2
    · rw [getD_set_ne (Ne.symm ei), getD_set_ne (Ne.symm ec)]
      exact H.one i c h1 h2 hc ei ec
/-- the hole goes up to its parent q -/
theorem Hole.rise {p k q : Nat} {h : List Row} (H : Hole p k h) (hq : Child q k) (hpq : p ≤ q) (hk : k < h.length) : Hole p q (h.set k (h.getD q row0)) := by
  have hqk : q < k := by rcases hq with e | e <;> (first | lia | omega)
  refine ⟨fun i c h1 h2 h3 h4 h5 => ?_, fun i c h1 h2 h3 h4 => ?_⟩
  · rw [List.length_set] at h3
    by_cases ei : i = k
    · subst ei
      have : i ≠ c := by rcases h2 with e | e <;> (first | lia | omega)
      rw [getD_set_self hk, getD_set_ne this]
      exact H.two q c hpq hq h2 h3
    · have ec : c ≠ k := by
        intro e
        subst e
        rcases h2 with e | e <;> rcases hq with e' | e' <;> (first | lia | omega)
      rw [getD_set_ne (Ne.symm ei), getD_set_ne (Ne.symm ec)]
      exact H.one i c h1 h2 h3 ei ec
  · rw [List.length_set] at h4
    have hiq : i < q := by rcases h2 with e | e <;> (first | lia | omega)
    have hiq' : Le (h.getD i row0) (h.getD q row0) := H.one i q h1 h2 (by (first | lia | omega)) (by (first | lia | omega)) (by (first | lia | omega))
    rw [getD_set_ne (by (first | lia | omega) : k ≠ i)]
    by_cases ec : c = k
    · subst ec
      rw [getD_set_self hk]
      exact hiq'
    · rw [getD_set_ne (Ne.symm ec)]
      exact hiq'.trans (H.one q c hpq h3 h4 (by (first | lia | omega)) ec)
theorem sdLoop_hp {p : Nat} {x : Row} : ∀ (f : Nat) (h : List Row) (k : Nat), k ≤ f → Desc p k → Hole p k h → (∀ c, Child k c → c < h.length → Le x (h.getD c row0)) → k < h.length →
    Hp p ((sdLoop x p f h k).1.set (sdLoop x p f h k).2 x)
  | 0, h, k, hf, d, H, h3, hk => by
    refine H.fill hk h3 fun i h1 h2 => ?_
    rcases h2 with e | e <;> (first | lia | omega)
  | f + 1, h, k, hf, d, H, h3, hk => by
    rw [sdLoop]
    by_cases h1 : p < k
    · rw [if_pos h1]
      have hq : Child ((k - 1) / 2) k := by unfold Child; (first | lia | omega)
      have dq := d.up h1
      by_cases h2 : rowLt x (h.getD ((k - 1) / 2) row0) = true
      · rw [if_pos h2]
        refine sdLoop_hp f _ _ (by (first | lia | omega)) dq (H.rise hq dq.le hk) (fun c hc hcl => ?_) (by rw [List.length_set]; (first | lia | omega))
        rw [List.length_set] at hcl
        by_cases ec : c = k
        · subst ec
          rw [getD_set_self hk]
          exact Le.of_lt h2
        · rw [getD_set_ne (Ne.symm ec)]
          exact (Le.of_lt h2).trans (H.one _ c dq.le hc hcl (by (first | lia | omega)) ec)
      · rw [if_neg h2]
        refine H.fill hk h3 fun i h4 h5 => ?_
        have : i = (k - 1) / 2 := by rcases h5 with e | e <;> (first | lia | omega)
        rw [this]
        simpa [Le] using h2
    · rw [if_neg h1]
      refine H.fill hk h3 fun i h4 h5 => ?_
      rcases h5 with e | e <;> (first | lia | omega)
theorem siftupP_hp {rows : List Row} {p : Nat} (hp : p < rows.length) (H : Hp (p + 1) rows) : Hp p (siftupP rows p) := by
  have H0 : Hole p p rows := by
    refine ⟨fun i c h1 h2 h3 h4 h5 => H i c (by (first | lia | omega)) h2 h3, fun i c h1 h2 h3 h4 => ?_⟩
    rcases h2 with e | e <;> (first | lia | omega)
  obtain ⟨H1, d1, hleaf⟩ := suLoop_hole rows.length rows p (by (first | lia | omega)) .self H0 hp
  have hlen := suLoop_len rows.length rows p
  have hk := (suLoop_perm (x := row0) rows.length rows p hp).2
  unfold siftupP
  generalize suLoop rows.length rows p = r at *
  obtain ⟨h, k⟩ := r
  simp only at *
  have e : (h.set k (rows.getD p row0)).getD k row0 = rows.getD p row0 := getD_set_self (by (first | lia | omega))
  unfold siftdownP
  simp only [e]
  refine sdLoop_hp k _ _ (Nat.le_refl _) d1 H1.set (fun c hc hcl => ?_) (by rw [List.length_set]; (first | lia | omega))
  rw [List.length_set] at hcl
  rcases hc with e | e <;> (first | lia | omega)
theorem hpLoop_hp : ∀ (k : Nat) (rows : List Row), k ≤ rows.length → Hp k rows → Hp 0 (hpLoop k rows)
  | 0, rows, _, H => H
  | k + 1, rows, hk, H => by
    rw [hpLoop]
    exact hpLoop_hp k _ (by rw [siftupP_len]; (first | lia | omega)) (siftupP_hp (by (first | lia | omega)) H)
theorem heapifyP_hp (rows : List Row) : Hp 0 (heapifyP rows) := by
  refine hpLoop_hp _ _ (by (first | lia | omega)) fun i c h1 h2 h3 => ?_
  rcases h2 with e | e <;> (first | lia | omega)
theorem Hp.least {h : List Row} (H : Hp 0 h) : ∀ (n i : Nat), i ≤ n → i < h.length → Le (h.getD 0 row0) (h.getD i row0)
  | 0, i, hn, _ => by
    have : i = 0 := by (first | lia | omega)
    rw [this]
    exact Le.refl _
  | n + 1, i, hn, hi => by
    by_cases e : i = 0
    · rw [e]
      exact Le.refl _
    · exact (Hp.least H n ((i - 1) / 2) (by (first | lia | omega)) (by (first | lia | omega))).trans (H _ i (Nat.zero_le _) (by unfold Child; (first | lia | omega)) hi)
theorem Hp.min {h : List Row} (H : Hp 0 h) {r : Row} (hr : r ∈ h) : Le (h.getD 0 row0) r := by
  obtain ⟨i, hi, rfl⟩ := List.getElem_of_mem hr
  have := H.least i i (Nat.le_refl _) hi
  rw [show h.getD i row0 = h[i] by simp [List.getD_eq_getElem?_getD, hi]] at this
  exact this
theorem heappopP_fst {h : List Row} (hl : 0 < h.length) : (heappopP h).1 = h.getD 0 row0 := by
  unfold heappopP
  split
  · have : h.length - 1 = 0 := by (first | lia | omega)
    rw [this]
  · rfl
theorem heappopP_hp {h : List Row} (H : Hp 0 h) : Hp 0 (heappopP h).2 := by
  unfold heappopP
  split
  · intro i c _ _ hc
    cases hc
  · rename_i hl
    have hdl : h.dropLast.length = h.length - 1 := List.length_dropLast
    refine siftupP_hp (by rw [List.length_set, hdl]; (first | lia | omega)) fun i c h1 h2 h3 => ?_
    rw [List.length_set, hdl] at h3
    have hc : i < c := by rcases h2 with e | e <;> (first | lia | omega)
    rw [getD_set_ne (by (first | lia | omega)), getD_set_ne (by (first | lia | omega))]
    have e : ∀ j, j < h.length - 1 → h.dropLast.getD j row0 = h.getD j row0 := by
      intro j hj
      simp only [List.getD_eq_getElem?_getD, List.getElem?_dropLast]
      rw [if_pos hj]
    rw [e i (by (first | lia | omega)), e c h3]
    exact H i c (Nat.zero_le _) h2 (by (first | lia | omega))
theorem heappopP_min {h : List Row} (H : Hp 0 h) (hl : 0 < h.length) {r : Row} (hr : r ∈ h) : Le (heappopP h).1 r := by
  rw [heappopP_fst hl]
  exact H.min hr
/-! sorted lists -/
noncomputable def Srt (l : List Row) : Prop := l.Pairwise Le
theorem Srt.head {x y : Row} {h s : List Row} (p : (x :: s).Perm h) (o : Srt (x :: s)) (hy : y ∈ h) (hmin : ∀ r ∈ h, Le y r) : x = y := by
  have h1 : Le y x := hmin x (p.subset (.head _))
  have h2 : Le x y := by
    have hy' : y ∈ x :: s := p.symm.subset hy
    rcases List.mem_cons.mp hy' with rfl | hy'
    · exact Le.refl _
    · exact (List.pairwise_cons.mp o).1 y hy'
  exact Le.antisymm h2 h1
theorem Srt.uniq : ∀ {a b : List Row}, a.Perm b → Srt a → Srt b → a = b
  | [], b, p, _, _ => by rw [List.nil_perm.mp p]
  | x :: a, b, p, oa, ob => by
    cases b with
    | nil => exact absurd p.length_eq (by simp)
    | cons y b =>
      have e : x = y := Srt.head p oa (.head _) (by
        intro r hr
        rcases List.mem_cons.mp hr with rfl | hr
        · exact Le.refl _
        · exact (List.pairwise_cons.mp ob).1 r hr)
      subst e
      rw [Srt.uniq (List.Perm.cons_inv p) (List.pairwise_cons.mp oa).2 (List.pairwise_cons.mp ob).2]
end HQx
section HT0x
set_option maxRecDepth 100000
set_option maxHeartbeats 4000000
noncomputable def tilde : Str := Str.ofString "~"
noncomputable def popLoop (turn : Int) : Nat → List Row → Str → List Row → List (Int × Row) → List Row × List (Int × Row)
  | 0, _, _, left, gone => (left, gone)
  | f + 1, pile, least, left, gone =>
    if 0 < pile.length then
      (if strLt (heappopP pile).1.l least = true then popLoop turn f (heappopP pile).2 (heappopP pile).1.l left (gone ++ [(turn, (heappopP pile).1)])
       else popLoop turn f (heappopP pile).2 least (left ++ [(heappopP pile).1]) gone)
    else (left, gone)
theorem popLoop_nil {turn : Int} {f : Nat} {pile left : List Row} {least : Str} {gone : List (Int × Row)} (h : ¬ 0 < pile.length) : popLoop turn f pile least left gone = (left, gone) := by
  cases f with
  | zero => rfl
  | succ f => rw [popLoop, if_neg h]
theorem popLoop_out {turn : Int} {pile left : List Row} {least : Str} {gone : List (Int × Row)} (h : 0 < pile.length) (h2 : strLt (heappopP pile).1.l least = true) :
    popLoop turn pile.length pile least left gone = popLoop turn (heappopP pile).2.length (heappopP pile).2 (heappopP pile).1.l left (gone ++ [(turn, (heappopP pile).1)]) := by
  rw [heappopP_len h]
  obtain ⟨j, hj⟩ : ∃ j, pile.length = j + 1 := ⟨pile.length - 1, by (first | lia | omega)⟩
  rw [hj, popLoop, if_pos h, if_pos h2]
  rfl
theorem popLoop_stay {turn : Int} {pile left : List Row} {least : Str} {gone : List (Int × Row)} (h : 0 < pile.length) (h2 : strLt (heappopP pile).1.l least = false) :
    popLoop turn pile.length pile least left gone = popLoop turn (heappopP pile).2.length (heappopP pile).2 least (left ++ [(heappopP pile).1]) gone := by
  rw [heappopP_len h]
  obtain ⟨j, hj⟩ : ∃ j, pile.length = j + 1 := ⟨pile.length - 1, by (first | lia | omega)⟩
  rw [hj, popLoop, if_pos h, if_neg (by rw [h2]; exact Bool.false_ne_true)]
  rfl
/-- what a turn does with the pile in order -/
noncomputable def sweep (turn : Int) : List Row → Str → List Row → List (Int × Row) → List Row × List (Int × Row)
  | [], _, left, gone => (left, gone)
  | r :: s, least, left, gone => if strLt r.l least = true then sweep turn s r.l left (gone ++ [(turn, r)]) else sweep turn s least (left ++ [r]) gone
theorem popLoop_sweep {turn : Int} : ∀ (S pile left : List Row) (least : Str) (gone : List (Int × Row)), Hp 0 pile → Srt S → S.Perm pile → popLoop turn pile.length pile least left gone = sweep turn S least left gone
  | [], pile, left, least, gone, H, o, p => by
    rw [List.nil_perm.mp p]
    rfl
  | x :: S, pile, left, least, gone, H, o, p => by
    have hl : 0 < pile.length := by rw [← p.length_eq]; simp
    have hp := heappopP_perm hl
    have e : x = (heappopP pile).1 := Srt.head p o (hp.subset (.head _)) fun r hr => heappopP_min H hl hr
    have p2 : S.Perm (heappopP pile).2 := by
      rw [e] at p
      exact (List.perm_cons _).mp (p.trans hp.symm)
    have o2 := (List.pairwise_cons.mp o).2
    have H2 := heappopP_hp H
    rw [sweep, e]
    cases h2 : strLt (heappopP pile).1.l least with
    | true =>
      rw [if_pos rfl, popLoop_out hl h2]
      exact popLoop_sweep S _ _ _ _ H2 o2 p2
    | false =>
      rw [if_neg Bool.false_ne_true, popLoop_stay hl h2]
      exact popLoop_sweep S _ _ _ _ H2 o2 p2
theorem popLoop_left {turn : Int} : ∀ (f : Nat) (pile left : List Row) (least : Str) (gone : List (Int × Row)), (popLoop turn f pile least left gone).1.length ≤ left.length + pile.length ∧ ∀ r ∈ (popLoop turn f pile least left gone).1, r ∈ left ∨ r ∈ pile
  | 0, pile, left, least, gone => ⟨by simp [popLoop], fun r hr => .inl hr⟩
  | f + 1, pile, left, least, gone => by
    rw [popLoop]
    split
    · rename_i hl
      have hlen := heappopP_len hl
      have hp := heappopP_perm hl
      split
      · have ih := popLoop_left (turn := turn) f (heappopP pile).2 left (heappopP pile).1.l (gone ++ [(turn, (heappopP pile).1)])
        refine ⟨by (first | lia | omega), fun r hr => (ih.2 r hr).imp id fun h => hp.subset (.tail _ h)⟩
      · have ih := popLoop_left (turn := turn) f (heappopP pile).2 (left ++ [(heappopP pile).1]) least gone
        rw [List.length_append, List.length_singleton] at ih
        refine ⟨by (first | lia | omega), fun r hr => ?_⟩
        rcases ih.2 r hr with h | h
        · rcases List.mem_append.mp h with h | h
          · exact .inl h
          · rw [List.mem_singleton.mp h]
            exact .inr (hp.subset (.head _))
        · exact .inr (hp.subset (.tail _ h))
    · exact ⟨by simp, fun r hr => .inl hr⟩
theorem popLoop_gone {turn : Int} : ∀ (f : Nat) (pile left : List Row) (least : Str) (gone : List (Int × Row)), (popLoop turn f pile least left gone).2.length ≤ gone.length + pile.length
  | 0, pile, left, least, gone => by simp [popLoop]
  | f + 1, pile, left, least, gone => by
    rw [popLoop]
    split
    · rename_i hl
      have hlen := heappopP_len hl
      split
      · have ih := popLoop_gone (turn := turn) f (heappopP pile).2 left (heappopP pile).1.l (gone ++ [(turn, (heappopP pile).1)])
        rw [List.length_append, List.length_singleton] at ih
        (first | lia | omega)
      · have ih := popLoop_gone (turn := turn) f (heappopP pile).2 (left ++ [(heappopP pile).1]) least gone
        (first | lia | omega)
    · simp
theorem popLoop_total {turn : Int} : ∀ (f : Nat) (pile left : List Row) (least : Str) (gone : List (Int × Row)), pile.length ≤ f → (popLoop turn f pile least left gone).1.length + (popLoop turn f pile least left gone).2.length = left.length + gone.length + pile.length
  | 0, pile, left, least, gone, h => by
    simp only [popLoop]
    (first | lia | omega)
  | f + 1, pile, left, least, gone, h => by
    rw [popLoop]
    split
    · rename_i hl
      have hlen := heappopP_len hl
      split
      · have ih := popLoop_total (turn := turn) f (heappopP pile).2 left (heappopP pile).1.l (gone ++ [(turn, (heappopP pile).1)]) (by (first | lia | omega))
        rw [List.length_append, List.length_singleton] at ih
        (first | lia | omega)
      · have ih := popLoop_total (turn := turn) f (heappopP pile).2 (left ++ [(heappopP pile).1]) least gone (by (first | lia | omega))
        rw [List.length_append, List.length_singleton] at ih
        (first | lia | omega)
    · simp only []
      (first | lia | omega)
theorem popLoop_less {turn : Int} {pile : List Row} {gone : List (Int × Row)} (h : 0 < pile.length) (ht : ∀ r ∈ pile, strLt r.l tilde = true) : (popLoop turn pile.length pile tilde [] gone).1.length < pile.length := by
  have h2 := ht _ ((heappopP_perm h).subset (.head _))
  rw [popLoop_out h h2]
  have := (popLoop_left (turn := turn) (heappopP pile).2.length (heappopP pile).2 [] (heappopP pile).1.l (gone ++ [(turn, (heappopP pile).1)])).1
  rw [heappopP_len h] at this
  rw [heappopP_len h]
  simp only [List.length_nil] at this
  (first | lia | omega)
noncomputable def turnsLoop : Nat → List Row → Int → List (Int × Row) → List (Int × Row)
  | 0, _, _, gone => gone
  | f + 1, pile, turn, gone => if 0 < pile.length then
      turnsLoop f (popLoop (turn + 1) pile.length (heapifyP pile) tilde [] gone).1 (turn + 1) (popLoop (turn + 1) pile.length (heapifyP pile) tilde [] gone).2
    else gone
theorem turnsLoop_nil {f : Nat} {pile : List Row} {turn : Int} {gone : List (Int × Row)} (h : ¬ 0 < pile.length) : turnsLoop f pile turn gone = gone := by
  cases f with
  | zero => rfl
  | succ f => rw [turnsLoop, if_neg h]
theorem turnsLoop_fuel : ∀ (f g : Nat) (pile : List Row) (turn : Int) (gone : List (Int × Row)), (∀ r ∈ pile, strLt r.l tilde = true) → pile.length ≤ f → pile.length ≤ g → turnsLoop f pile turn gone = turnsLoop g pile turn gone
  | 0, g, pile, turn, gone, _, h1, h2 => by rw [turnsLoop_nil (by (first | lia | omega)), turnsLoop_nil (by (first | lia | omega))]
  | f + 1, 0, pile, turn, gone, _, h1, h2 => by rw [turnsLoop_nil (by (first | lia | omega)), turnsLoop_nil (by (first | lia | omega))]
  | f + 1, g + 1, pile, turn, gone, ht, h1, h2 => by
    rw [turnsLoop, turnsLoop]
    split
    · rename_i hl
      have ht2 : ∀ r ∈ heapifyP pile, strLt r.l tilde = true := fun r hr => ht r ((heapifyP_perm pile).subset hr)
      have hlen := heapifyP_len pile
      have h3 := popLoop_less (turn := turn + 1) (gone := gone) (pile := heapifyP pile) (by (first | lia | omega)) ht2
      rw [hlen] at h3
      refine turnsLoop_fuel f g _ _ _ (fun r hr => ?_) (by (first | lia | omega)) (by (first | lia | omega))
      rcases (popLoop_left _ _ _ _ _).2 r hr with h | h
      · cases h
      · exact ht2 r h
    · rfl
theorem turnsLoop_go {pile : List Row} {turn : Int} {gone : List (Int × Row)} (ht : ∀ r ∈ pile, strLt r.l tilde = true) (h : 0 < pile.length) : turnsLoop pile.length pile turn gone =
    turnsLoop (popLoop (turn + 1) pile.length (heapifyP pile) tilde [] gone).1.length (popLoop (turn + 1) pile.length (heapifyP pile) tilde [] gone).1 (turn + 1) (popLoop (turn + 1) pile.length (heapifyP pile) tilde [] gone).2 := by
  have ht2 : ∀ r ∈ heapifyP pile, strLt r.l tilde = true := fun r hr => ht r ((heapifyP_perm pile).subset hr)
  have hlen := heapifyP_len pile
  have h3 := popLoop_less (turn := turn + 1) (gone := gone) (pile := heapifyP pile) (by (first | lia | omega)) ht2
  rw [hlen] at h3
  obtain ⟨j, hj⟩ : ∃ j, pile.length = j + 1 := ⟨pile.length - 1, by (first | lia | omega)⟩
  have e : turnsLoop pile.length pile turn gone = turnsLoop j (popLoop (turn + 1) pile.length (heapifyP pile) tilde [] gone).1 (turn + 1) (popLoop (turn + 1) pile.length (heapifyP pile) tilde [] gone).2 := by
    conv => lhs; rw [hj]
    rw [turnsLoop, if_pos h]
  rw [e]
  refine turnsLoop_fuel _ _ _ _ _ (fun r hr => ?_) (by (first | lia | omega)) (Nat.le_refl _)
  rcases (popLoop_left _ _ _ _ _).2 r hr with h | h
  · cases h
  · exact ht2 r h
noncomputable def turnsP (rows : List Row) : List (Int × Row) := turnsLoop rows.length rows 0 []
/-! what goes out, in the heap -/
noncomputable def GoneAt (nw : List (Addr × Obj)) (v : Value) (g : Int × Row) : Prop := ∃ a ta b t1 t2 t3, v = .ref a ∧ (a, tupO [.int g.1 ta, .ref b]) ∈ nw ∧ (b, tup3 g.2 t1 t2 t3) ∈ nw
noncomputable def GoneIn (nw : List (Addr × Obj)) (vs : List Value) (gone : List (Int × Row)) : Prop := vs.length = gone.length ∧ ∀ (i : Nat) v g, vs[i]? = some v → gone[i]? = some g → GoneAt nw v g
theorem GoneAt.mono {nw nw' : List (Addr × Obj)} {v : Value} {g : Int × Row} (h : GoneAt nw v g) (hs : ∀ p ∈ nw, p ∈ nw') : GoneAt nw' v g := by
  obtain ⟨a, ta, b, t1, t2, t3, e, h1, h2⟩ := h
  exact ⟨a, ta, b, t1, t2, t3, e, hs _ h1, hs _ h2⟩
theorem GoneIn.mono {nw nw' : List (Addr × Obj)} {vs : List Value} {gone : List (Int × Row)} (h : GoneIn nw vs gone) (hs : ∀ p ∈ nw, p ∈ nw') : GoneIn nw' vs gone :=
  ⟨h.1, fun i v r h1 h2 => (h.2 i v r h1 h2).mono hs⟩
theorem GoneIn.nil {nw : List (Addr × Obj)} : GoneIn nw [] [] := ⟨rfl, fun i v r h => by simp at h⟩
theorem GoneIn.snoc {nw : List (Addr × Obj)} {vs : List Value} {gone : List (Int × Row)} (h : GoneIn nw vs gone) {v : Value} {g : Int × Row} (hr : GoneAt nw v g) :
    GoneIn nw (vs ++ [v]) (gone ++ [g]) := by
  refine ⟨by simp [h.1], fun j v' r' h1 h2 => ?_⟩
  by_cases e : j < vs.length
  · rw [List.getElem?_append_left e] at h1
    rw [List.getElem?_append_left (by rw [← h.1]; exact e)] at h2
    exact h.2 j v' r' h1 h2
  · rw [List.getElem?_append_right (by (first | lia | omega))] at h1
    rw [List.getElem?_append_right (by rw [← h.1]; (first | lia | omega))] at h2
    by_cases e2 : j - vs.length = 0
    · rw [e2] at h1
      have e3 : j - gone.length = 0 := by rw [← h.1]; exact e2
      rw [e3] at h2
      simp at h1 h2
      subst h1 h2
      exact hr
    · have : 1 ≤ j - vs.length := by (first | lia | omega)
      rw [List.getElem?_eq_none (by simpa using this)] at h1
      cases h1
theorem mem_tl {nw rest : List (Addr × Obj)} {e : Addr × Obj} (h : ∀ q ∈ nw, q ∈ rest) : ∀ q ∈ nw, q ∈ e :: rest := fun q hq => .tail _ (h q hq)
theorem news_of {h₀ h : Heap} {L : Addr} {a b : List (Addr × Obj)} (N : News h₀ L h a) (hs : ∀ p ∈ b, p ∈ a) : News h₀ L h b := fun p hp => N p (hs p hp)
theorem not_mem2 {a b c : Nat} (h1 : a ≠ b) (h2 : a ≠ c) : a ∉ [b, c] := by simp [h1, h2]
theorem allLt_ne {d : Nat} : ∀ {l : List (Addr × Obj)}, AllLt d l → ∀ p ∈ l, p.1 ≠ d
  | [], _, _, hp => nomatch hp
  | _ :: _, h, p, hp => by
    rcases List.mem_cons.mp hp with rfl | hp
    · exact Nat.ne_of_lt h.1
    · exact allLt_ne h.2 p hp
theorem allLt_lt {d : Nat} : ∀ {l : List (Addr × Obj)}, AllLt d l → ∀ p ∈ l, @LT.lt Nat _ p.1 d
  | [], _, _, hp => nomatch hp
  | _ :: _, h, p, hp => by
    rcases List.mem_cons.mp hp with rfl | hp
    · exact h.1
    · exact allLt_lt h.2 p hp
theorem ne_cons {d : Nat} {e : Addr × Obj} {l : List (Addr × Obj)} (h1 : e.1 ≠ d) (h2 : ∀ p ∈ l, p.1 ≠ d) : ∀ p ∈ e :: l, p.1 ≠ d := fun p hp => by
  rcases List.mem_cons.mp hp with rfl | hp
  · exact h1
  · exact h2 p hp
section
variable {prog : Program} {w : World} {A : Around} {E : Value → Shared → Prop} {s : Shared} {h₀ : Heap} {L : Addr} {news nw : List (Addr × Obj)} {Q : Value → Shared → Prop}
theorem row_item1 {value slice : PySem.Expr} {a : Addr} {r : Row} {t1 t2 t3 u : Tok} (N : News h₀ L s.heap news) (hnw : ∀ q ∈ nw, q ∈ news) (ha : (a, tup3 r t1 t2 t3) ∈ nw) (h : Q (.str r.l t2) s)
    (hs : subscripted slice false (.ref a) (.int 1 u) = operate [.ref a, .int 1 u] (getItem (.ref a) (.int 1 u)) := by with_unfolding_all rfl) (hg : ∀ r, letTemporaryGo value (.ref a) r = pure () := by intro _; with_unfolding_all rfl) :
    wpAny (model prog w) A (subscriptTail value slice (.ref a) (.int 1 u)) Q E s :=
  kim_tup (l := [.str r.w t1, .str r.l t2, .int r.p t3]) (n := 0) (j := 1) N (hnw _ ha) rfl rfl (by decide) (by decide) rfl rfl h hs hg
theorem app_any {D : Addr} {vs : List Value} {n : Nat} {m : Str → Option Value} {news' : List (Addr × Obj)} {x : Value} (F : Fr h₀ L s.heap m) (N : News h₀ L s.heap news) (U : Upd D (listOf vs.toArray n) (listOf (vs ++ [x]).toArray (n + 1)) news news') (hz : vs.length < 2000)
    (h : ∀ h', Fr h₀ L h' m → News h₀ L h' news' → Q .none { s with heap := h' }) : wpAny (model prog w) A (call (.builtin "list.append") [.ref D, x]) Q E s := by
  refine append_K F N (its := vs.toArray) (n := n) ?_ h (by rw [List.size_toArray, sizeLine_eq]; (first | lia | omega))
  rw [List.push_toArray]
  exact U
end
end HT0x
section HTx
set_option maxRecDepth 100000
set_option maxHeartbeats 8000000
theorem fill2 : (fun (_ : OpenLaw) (_ : Params → Frag) => True) Challenge.rw_nq0079_01 hd.heap_39 := by
  w_top off
  k_fill
  trivial
inductive TurnsI (nw rest : List (Addr × Obj)) (rows : List Row) (k : Nat) (m1 : Str → Option Value) (nx : List (Addr × Obj)) : Prop
  | mk (P : Nat) (vs' : List Value) (rows' : List Row) (n' : Nat) (G : Nat) (gvs : List Value) (ng : Nat) (gone : List (Int × Row)) (rest' : List (Addr × Obj)) (turn : Int)
    (h1 : nx = (P, listOf vs'.toArray n') :: (G, listOf gvs.toArray ng) :: rest') (h2 : P ≠ G) (h3 : ∀ q ∈ rest', q.1 ≠ P) (h4 : ∀ q ∈ rest', q.1 ≠ G) (h5 : ∀ q ∈ rest, q ∈ rest') (h6 : RowsIn nw vs' rows') (h7 : GoneIn rest' gvs gone)
    (h8 : rows'.length + gone.length = rows.length) (h9 : k = rows'.length) (h10 : ∀ r ∈ rows', strLt r.l tilde = true) (h11 : turnsLoop rows'.length rows' turn gone = turnsP rows)
    (h12 : m1 (Str.ofString "pile") = some (Value.ref P)) (h13 : m1 (Str.ofString "gone") = some (Value.ref G)) (h14 : ∃ t', m1 (Str.ofString "turn") = some (Value.int turn t'))
inductive PopI (nw rest : List (Addr × Obj)) (rows rows' : List Row) (gone : List (Int × Row)) (P Lf G' : Nat) (turn : Int) (k : Nat) (m1 : Str → Option Value) (nx : List (Addr × Obj)) : Prop
  | mk (vs2 : List Value) (pile : List Row) (n2 : Nat) (lvs : List Value) (left : List Row) (nl : Nat) (gvs2 : List Value) (gone2 : List (Int × Row)) (ng2 : Nat) (rest2 : List (Addr × Obj)) (least : Str)
    (h1 : nx = (P, listOf vs2.toArray n2) :: (Lf, listOf lvs.toArray nl) :: (G', listOf gvs2.toArray ng2) :: rest2) (h2 : ∀ q ∈ rest2, q.1 ≠ P) (h3 : ∀ q ∈ rest2, q.1 ≠ Lf) (h4 : ∀ q ∈ rest2, q.1 ≠ G') (h5 : ∀ q ∈ rest, q ∈ rest2)
    (h6 : RowsIn nw vs2 pile) (h7 : RowsIn nw lvs left) (h8 : GoneIn rest2 gvs2 gone2) (h9 : k = pile.length) (h10 : pile.length + left.length + gone2.length = rows.length)
    (h11 : popLoop (turn + 1) pile.length pile least left gone2 = popLoop (turn + 1) rows'.length (heapifyP rows') tilde [] gone)
    (h12 : m1 (Str.ofString "pile") = some (Value.ref P)) (h13 : m1 (Str.ofString "left") = some (Value.ref Lf)) (h14 : m1 (Str.ofString "gone") = some (Value.ref G')) (h15 : ∃ t', m1 (Str.ofString "turn") = some (Value.int (turn + 1) t')) (h16 : ∃ t', m1 (Str.ofString "least") = some (Value.str least t'))
theorem turns_ok {w : World} {A₀ : Around} {base h₀ : Heap} {env : Env} {outer : List Env} {L : Addr} {m mg mb : Str → Option Value} {mean : ExcName → Option Value}
   {s : Shared} {l : Addr} {vs : List Value} {rows : List Row} {n : Nat} {nw rest : List (Addr × Obj)} {Q : Value → Shared → Prop} {E : Value → Shared → Prop}
   (B : Below A₀ base outer h₀) (X : (hd.heap_39 w.params).In h₀) (T : Top hd.view_39 LS mean mg mb h₀) (F : Fr h₀ L s.heap m) (N : News h₀ L s.heap ((l, listOf vs.toArray n) :: rest))
   (hf : env.frame = some L) (hk : env.scope.kind = .function) (hR : RowsIn nw vs rows) (hnw : ∀ q ∈ nw, q ∈ rest) (hoff : ∀ q ∈ rest, q.1 ≠ l) (hl : rows.length < 500) (ht : ∀ r ∈ rows, strLt r.l tilde = true)
   (h : ∀ h' tk G gvs ng rest', Fr h₀ L h' m → News h₀ L h' ((G, listOf gvs.toArray ng) :: rest') → (∀ q ∈ rest, q ∈ rest') → (∀ q ∈ rest', q.1 ≠ G) → GoneIn rest' gvs (turnsP rows) → Q (.ref G) { s with heap := h', toks := tk }) :
   wpAny (model prog w) (Ar 302 7 (env :: outer)) (call (.ref 133) [.ref l]) Q E s := by
  refine wpAny_call ?_
  k_with_none
  k_with "subscriptTail" => (k_here; (with_reducible show wpAny _ _ (subscriptTail _ _ (Value.ref _) (Value.int _ _)) _ _ _); k_dflt (refine' row_sub ?k1 ?k2 ?k3 ?k4 ?k5 ?k6 ?_ ?k7 ?k8; (case k1 => k_asm); (case k2 => k_mem); (case k3 => with_reducible assumption); (case k4 => (first | exact Int.natCast_nonneg _ | ((try simp only [shr1]); (first | lia | omega)))); (case k5 => (first | exact Int.ofNat_lt.mpr (by assumption) | ((try simp only [shr1]); (first | lia | omega)))); (case k6 => (first | assumption | ((try simp only [List.length_dropLast, List.length_set]); (first | lia | omega)))); (case k7 => with_unfolding_all rfl); (case k8 => intro _; with_unfolding_all rfl); k_whole); intro _ _ _ _ _ _)
  k_with "compareOp Lt ref ref" => (k_here; k_dflt (refine' lt_rowR ?k1 ?k5 ?k2 ?k3 ?k4 ?_; (case k1 => k_asm); (case k5 => with_reducible assumption); (case k2 => with_reducible assumption); (case k3 => with_reducible assumption); (case k4 => k_units); k_whole))
  k_with "setItem ref int" => (k_here; (with_reducible show wpAny _ _ (setItem (Value.ref _) (Value.int _ _) (Value.ref _)) _ _ _); k_dflt (refine' row_set ?k1 ?k2 ?k3 ?k4 ?k5 ?k6 ?k7 ?k8 ?_; (case k1 => k_asm); (case k2 => k_asm); (case k3 => k_upd); (case k4 => with_reducible assumption); (case k5 => exact ⟨_, _, _, _, rfl, by assumption⟩); (case k6 => (first | exact Int.natCast_nonneg _ | lia | omega)); (case k7 => (first | exact Int.ofNat_lt.mpr (by assumption) | lia | omega)); (case k8 => (first | assumption | ((try simp only [List.length_dropLast, List.length_set]); (first | lia | omega)))); k_whole); intro _ _ _ _; (try k_sweep))
  k_with "call builtin:len" => (k_here; (with_reducible show wpAny _ _ (call (Value.builtin _) [Value.ref _]) _ _ _); k_dflt (refine' row_len ?k1 ?k2 ?k3 ?k4 ?_; (case k1 => k_asm); (case k2 => k_mem); (case k3 => with_reducible assumption); (case k4 => (first | assumption | lia | omega)); k_whole))
  k_with "call builtin:list.pop" => (k_here; (with_reducible show wpAny _ _ (call (Value.builtin _) [Value.ref _]) _ _ _); k_dflt (refine' row_pop ?F ?N ?U ?i ?l ?z ?_; (case F => k_asm); (case N => k_asm); (case U => k_upd); (case i => with_reducible assumption); (case l => (first | assumption | lia | omega)); (case z => (first | assumption | lia | omega)); k_whole); intro _ _ _ _ _ _ _ _ _; (try k_sweep))
  k_with "truthy ref" => (k_here; (with_reducible show wpAny _ _ (truthy (Value.ref _)) _ _ _); k_dflt (refine' row_truthy ?N ?m ?i ?z ?_; (case N => k_asm); (case m => k_mem); (case i => with_reducible assumption); (case z => ((try simp only [List.length_dropLast]); (first | lia | omega))); k_whole))
  k_with "call ref" => (k_here; (with_reducible show wpAny _ _ (call (Value.ref 65) _ _) _ _ _); k_dflt (refine' heapify_ok ?k1 ?k2 ?k3 ?k4 ?k5 ?k6 ?k7 ?k8 ?kN ?k9 ?kB ?_; (case k1 => k_asm); (case k2 => k_asm); (case k3 => k_asm); (case k4 => k_asm); (case k5 => k_asm); (case k6 => exact rfl); (case k7 => exact rfl); (case k8 => with_reducible assumption); (case kN => first | with_reducible assumption | (refine mem_tl ?_; with_reducible assumption) | (refine mem_tl (mem_tl ?_); with_reducible assumption)); (case k9 => k_all); (case kB => (first | lia | omega)); k_whole); intro _ _ _ _ _ _; (try k_sweep))
  k_with "call ref" => (k_here; (with_reducible show wpAny _ _ (call (Value.ref 58) _ _) _ _ _); k_dflt (refine' heappop_ok ?k1 ?k2 ?k3 ?k4 ?k5 ?k6 ?k7 ?k8 ?kN ?k9 ?kB ?kC ?_; (case k1 => k_asm); (case k2 => k_asm); (case k3 => k_asm); (case k4 => k_asm); (case k5 => k_asm); (case k6 => exact rfl); (case k7 => exact rfl); (case k8 => with_reducible assumption); (case kN => first | with_reducible assumption | (refine mem_tl ?_; with_reducible assumption) | (refine mem_tl (mem_tl ?_); with_reducible assumption)); (case k9 => k_all); (case kB => (first | lia | omega)); (case kC => (first | lia | omega)); k_whole); intro _ _ _ _ _ _ _ _ _ _ _; (try k_sweep))
  k_with "subscriptTail" => (k_here; (with_reducible show wpAny _ _ (subscriptTail _ _ (Value.ref _) (Value.int 1 _)) _ _ _); k_dflt (refine' row_item1 ?k1 ?k2 ?k3 ?_ ?k7 ?k8; (case k1 => k_asm); (case k3 => with_reducible assumption); (case k2 => first | with_reducible assumption | (refine mem_tl ?_; with_reducible assumption) | (refine mem_tl (mem_tl ?_); with_reducible assumption) | (refine mem_tl (mem_tl (mem_tl ?_)); with_reducible assumption)); (case k7 => with_unfolding_all rfl); (case k8 => intro _; with_unfolding_all rfl); k_whole))
  k_with "call builtin:list.append" => (k_here; (with_reducible show wpAny _ _ (call (Value.builtin _) [Value.ref _, _]) _ _ _); k_dflt (refine' app_any ?k1 ?k2 ?k3 ?k4 ?_; (case k1 => k_asm); (case k2 => k_asm); (case k3 => k_upd); (case k4 => (first | lia | omega)); k_whole); intro _ _ _; (try k_sweep))
  (refine' code_def ?k1 ?k2 ?k3 ?k4 ?k5 ?kA ?kF ?kK ?k6 ?k7 ?k8 ?k9 ?kB ?_ ?c2 ?c3 ?c4 ?c5; (case kA => exact rfl); (case kF => assumption); (case kK => assumption); (case k1 => k_asm); (case k2 => k_asm); (case k3 => k_asm); (case k4 => k_asm); (case k5 => k_asm); (case k6 => k_is); (case k7 => k_is); (case k8 => k_room); (case k9 => first | exact BindsTo.of_eq rfl | exact binds_K (by k_in) rfl (by k_is) rfl rfl rfl | fail "k_enter: no rule for these arguments"); (case c5 => decide); (case kB => exact locs rfl); (case c2 => exact rfl); (case c3 => exact rfl); (case c4 => exact rfl); k_whole; walk_at "mine in")
  (repeat' ((fail_if_success (with_reducible show wpAny _ _ (exec (Stmt.While _ _ _ _) _) _ _ _)); (fail_if_success (with_reducible show WhileStep2 _ _ _ _ _ _ _ _)); (first | (k_unfold; (try dsimp only)) | (k_end; wrow_close) | (first | with_reducible k_extra "subscriptTail" | walk1) | (dsimp only; (first | with_reducible k_extra "subscriptTail" | walk1)) | (leave1; walk_say "STEP leave1"; try dsimp only) | fail "no step")))
  rename_i g' L' h1 FG BG XG TG G h2 hlt h3 h4 F1 N1
  obtain ⟨J, hJ⟩ : ∃ J : Nat → (Str → Option Value) → List (Addr × Obj) → Prop, J = TurnsI nw rest rows := ⟨_, rfl⟩
  refine While_inv2 J
    F1 (news_of N1 (b := (l, listOf vs.toArray n) :: (G, listOf ([] : List Value).toArray 0) :: rest) ?_) (by rw [hJ]; exact ⟨l, vs, rows, n, G, [], 0, [], rest, 0, rfl, by (first | lia | omega), hoff, allLt_ne hlt.2, fun _ h => h, hR, .nil, by simp, rfl, ht, rfl, rfl, rfl, ⟨_, rfl⟩⟩) ?_
  · intro p hp
    rcases List.mem_cons.mp hp with rfl | hp
    · exact .tail _ (.head _)
    · rcases List.mem_cons.mp hp with rfl | hp
      · exact .head _
      · exact .tail _ (.tail _ hp)
  clear F1 N1
  intro k m1 nx h5 tk5 F3 N3 hj
  rw [hJ] at hj
  obtain ⟨P, vs', rows', n', G', gvs, ng, gone, rest', turn, rfl, hPG, hrP, hrG, hsub, hR', hG', hcnt, rfl, ht', hE, q1, q2, ⟨t3, q3⟩⟩ := hj
  replace F3 := (((Ov.nil F3).cons q1).cons q2).cons q3 |>.fr
  have hnw' : ∀ q ∈ nw, q ∈ rest' := fun q hq => hsub q (hnw q hq)
  (repeat' ((fail_if_success (with_reducible show wpAny _ _ (exec (Stmt.While _ _ _ _) _) _ _ _)); (fail_if_success (with_reducible show WhileStep2 _ _ _ _ _ _ _ _)); (first | (k_unfold; (try dsimp only)) | (k_end; wrow_close) | (first | with_reducible k_extra "subscriptTail" | walk1) | (dsimp only; (first | with_reducible k_extra "subscriptTail" | walk1)) | (leave1; walk_say "STEP leave1"; try dsimp only) | fail "no step")))
  · rename_i vs1 hR1 Lf _ hlt1 _ _ F1 N1
    have c1 : 0 < rows'.length := by assumption
    have hlen1 := heapifyP_len rows'
    obtain ⟨J2, hJ2⟩ : ∃ J : Nat → (Str → Option Value) → List (Addr × Obj) → Prop, J = PopI nw rest rows rows' gone P Lf G' turn := ⟨_, rfl⟩
    refine While_inv2 J2
      F1 (news_of N1 (b := (P, listOf vs1.toArray n') :: (Lf, listOf ([] : List Value).toArray 0) :: (G', listOf gvs.toArray ng) :: rest') ?_)
      (by rw [hJ2]; exact ⟨vs1, heapifyP rows', n', [], [], 0, gvs, gone, ng, rest', tilde, rfl, hrP, allLt_ne hlt1.2.2, hrG, hsub, hR1, .nil, hG', rfl, by rw [hlen1]; simpa using hcnt, by rw [hlen1], rfl, rfl, rfl, ⟨_, rfl⟩, ⟨_, rfl⟩⟩) ?_
    · intro p hp
      rcases List.mem_cons.mp hp with rfl | hp
      · exact .tail _ (.head _)
      · rcases List.mem_cons.mp hp with rfl | hp
        · exact .head _
        · exact .tail _ (.tail _ hp)
    clear F1 N1
    have hPL : P ≠ Lf := Nat.ne_of_lt hlt1.1
    have hGL : G' ≠ Lf := Nat.ne_of_lt hlt1.2.1
    intro k m2 nx h7 tk7 F4 N4 hj2
    rw [hJ2] at hj2
    obtain ⟨vs2, pile, n2, lvs, left, nl, gvs2, gone2, ng2, rest2, least, rfl, hr2P, hr2L, hr2G, hsub2, hR2, hRL, hG2, rfl, hcnt2, hE2, p1, p2, p3, ⟨t4, p4⟩, ⟨t5, p5⟩⟩ := hj2
    replace F4 := (((((Ov.nil F4).cons p1).cons p2).cons p3).cons p4).cons p5 |>.fr
    have hnw2 : ∀ q ∈ nw, q ∈ rest2 := fun q hq => hsub2 q (hnw q hq)
    have hv1 := hG2.1
    have hv2 := hRL.1
    (repeat' ((fail_if_success (with_reducible show wpAny _ _ (exec (Stmt.While _ _ _ _) _) _ _ _)); (fail_if_success (with_reducible show WhileStep2 _ _ _ _ _ _ _ _)); (first | (k_unfold; (try dsimp only)) | (k_end; wrow_close) | (first | with_reducible k_extra "subscriptTail" | walk1) | (dsimp only; (first | with_reducible k_extra "subscriptTail" | walk1)) | (leave1; walk_say "STEP leave1"; try dsimp only) | fail "no step")))
    · subst hJ2
      dsimp only [WhileStep2]
      have d1 : 0 < pile.length := by assumption
      have c2 : (heappopP pile).1.l.cps.toList < least.cps.toList := by assumption
      first
        | (rename_i vsx ax x1 x2 x3 hRx hmx _ _ _ _ _ D _ hltD _ F9 N9; have hck : P < D ∧ Lf < D ∧ G' < D ∧ AllLt D rest2 := hltD; have hck2 : RowsIn nw vsx (heappopP pile).2 := hRx)
        | (rename_i vsx ax x1 x2 x3 hRx hmx _ _ _ _ D _ F9 N9 hltD; have hck : P < D ∧ Lf < D ∧ G' < D ∧ AllLt D rest2 := hltD; have hck2 : RowsIn nw vsx (heappopP pile).2 := hRx)
      have e : strLt (heappopP pile).1.l least = true := decide_eq_true c2
      have hl2 := heappopP_len d1
      refine ⟨_, _, _, _, (heappopP pile).2.length, rfl, F9, news_of N9 (b := (P, listOf vsx.toArray (n2 + 1)) :: (Lf, listOf lvs.toArray nl) :: (G', listOf (gvs2 ++ [Value.ref D]).toArray (ng2 + 1)) :: (D, tupO [.int (turn + 1) t4, .ref ax]) :: rest2) ?_, by (first | lia | omega),
        vsx, (heappopP pile).2, n2 + 1, lvs, left, nl, gvs2 ++ [.ref D], gone2 ++ [(turn + 1, (heappopP pile).1)], ng2 + 1, (D, tupO [.int (turn + 1) t4, .ref ax]) :: rest2, (heappopP pile).1.l, rfl,
        ne_cons (Nat.ne_of_gt hltD.1) hr2P, ne_cons (Nat.ne_of_gt hltD.2.1) hr2L, ne_cons (Nat.ne_of_gt hltD.2.2.1) hr2G, mem_tl hsub2, hRx, hRL, (hG2.mono fun _ hp => .tail _ hp).snoc ⟨D, t4, ax, x1, x2, x3, rfl, .head _, .tail _ (hnw2 _ hmx)⟩, rfl, ?_, (popLoop_out d1 e).symm.trans hE2, rfl, rfl, rfl, ⟨_, rfl⟩, ⟨_, rfl⟩⟩
      · intro p hp
        rcases List.mem_cons.mp hp with rfl | hp
        · exact .tail _ (.head _)
        · rcases List.mem_cons.mp hp with rfl | hp
          · exact .tail _ (.tail _ (.head _))
          · rcases List.mem_cons.mp hp with rfl | hp
            · exact .tail _ (.tail _ (.tail _ (.head _)))
            · rcases List.mem_cons.mp hp with rfl | hp
              · exact .head _
              · exact .tail _ (.tail _ (.tail _ (.tail _ hp)))
      · rw [List.length_append, List.length_singleton, hl2]
        (first | lia | omega)
    · subst hJ2
      dsimp only [WhileStep2]
      have d1 : 0 < pile.length := by assumption
      have c2 : ¬ (heappopP pile).1.l.cps.toList < least.cps.toList := by assumption
      first
        | (rename_i vsx ax x1 x2 x3 hRx hmx _ _ _ _ _ F9 N9; have hck2 : RowsIn nw vsx (heappopP pile).2 := hRx)
        | (rename_i vsx ax x1 x2 x3 hRx hmx _ _ _ _ F9 N9; have hck2 : RowsIn nw vsx (heappopP pile).2 := hRx)
        | (rename_i vsx ax x1 x2 x3 hRx hmx _ _ _ F9 N9; have hck2 : RowsIn nw vsx (heappopP pile).2 := hRx)
      have e : strLt (heappopP pile).1.l least = false := decide_eq_false c2
      have hl2 := heappopP_len d1
      refine ⟨_, _, _, _, (heappopP pile).2.length, rfl, F9, N9, by (first | lia | omega),
        vsx, (heappopP pile).2, n2 + 1, lvs ++ [.ref ax], left ++ [(heappopP pile).1], nl + 1, gvs2, gone2, ng2, rest2, least, rfl,
        hr2P, hr2L, hr2G, hsub2, hRx, hRL.snoc ⟨ax, x1, x2, x3, rfl, hmx⟩, hG2, rfl, ?_, (popLoop_stay d1 e).symm.trans hE2, rfl, rfl, rfl, ⟨_, rfl⟩, ⟨_, rfl⟩⟩
      rw [List.length_append, List.length_singleton, hl2]
      (first | lia | omega)
    · subst hJ
      dsimp only [WhileStep2]
      rename_i d1 _ F9 N9
      rw [popLoop_nil d1] at hE2
      have ht2 : ∀ r ∈ heapifyP rows', strLt r.l tilde = true := fun r hr => ht' r ((heapifyP_perm rows').subset hr)
      have hless := popLoop_less (turn := turn + 1) (gone := gone) (pile := heapifyP rows') (by (first | lia | omega)) ht2
      rw [hlen1, ← hE2] at hless
      refine ⟨_, _, _, _, left.length, rfl, F9, news_of N9 (fun p hp => .tail _ hp), hless, Lf, lvs, left, nl, G', gvs2, ng2, gone2, rest2, turn + 1, rfl, Ne.symm hGL, hr2L, hr2G, hsub2, hRL, hG2, by (first | lia | omega), rfl, ?_, ?_, rfl, rfl, ⟨_, rfl⟩⟩
      · intro r hr
        have := (popLoop_left (turn := turn + 1) rows'.length (heapifyP rows') [] tilde gone).2 r
        rw [← hE2] at this
        rcases this hr with h | h
        · cases h
        · exact ht2 r h
      · rw [← hE, turnsLoop_go ht' c1, ← hE2]
  · rename_i d1 F9 N9 _ _
    rw [turnsLoop_nil d1] at hE
    rw [← hE] at h
    exact h _ _ _ _ _ _ F9 (news_of N9 fun p hp => .tail _ hp) hsub hrG hG'
end HTx
section HLx
set_option maxRecDepth 100000
set_option maxHeartbeats 4000000
/-! the rises, and that the turns are they -/
noncomputable def mx : List Int → Int
  | [] => 0
  | a :: r => max a (mx r)
theorem mx_nonneg : ∀ l : List Int, 0 ≤ mx l
  | [] => Int.le_refl _
  | a :: r => by
    have := mx_nonneg r
    simp only [mx]
    (first | lia | omega)
theorem mx_le : ∀ {l : List Int} {a : Int}, a ∈ l → a ≤ mx l
  | b :: r, a, h => by
    simp only [mx]
    rcases List.mem_cons.mp h with rfl | h
    · (first | lia | omega)
    · have := mx_le h
      (first | lia | omega)
theorem mx_mem : ∀ (l : List Int), mx l = 0 ∨ mx l ∈ l
  | [] => .inl rfl
  | b :: r => by
    simp only [mx]
    rcases mx_mem r with h | h
    · by_cases hb : 0 ≤ b
      · rw [h, show max b 0 = b by (first | lia | omega)]
        exact .inr (.head _)
      · rw [h, show max b 0 = 0 by (first | lia | omega)]
        exact .inl rfl
    · by_cases hb : mx r ≤ b
      · rw [show max b (mx r) = b by (first | lia | omega)]
        exact .inr (.head _)
      · rw [show max b (mx r) = mx r by (first | lia | omega)]
        exact .inr (.tail _ h)
theorem mx_uniq {l : List Int} {M : Int} (h1 : M ∈ l ++ [0]) (h2 : ∀ x ∈ l ++ [0], x ≤ M) : M = mx l := by
  have h3 : mx l ≤ M := by
    rcases mx_mem l with h | h
    · rw [h]
      exact h2 0 (by simp)
    · exact h2 _ (List.mem_append_left _ h)
  have h4 : M ≤ mx l := by
    rcases List.mem_append.mp h1 with h | h
    · exact mx_le h
    · rw [List.mem_singleton.mp h]
      exact mx_nonneg l
  (first | lia | omega)
noncomputable def aheadOf (told : List (Int × Row)) (r : Row) : List Int := (told.filter fun g => !strLt r.l g.2.l).map (·.1)
noncomputable def toldLoop : List Row → List (Int × Row) → List (Int × Row)
  | [], told => told
  | r :: s, told => toldLoop s (told ++ [(1 + mx (aheadOf told r), r)])
/-- each level is one more than the greatest level ahead of it that is not above it -/
noncomputable def Lev (T : List (Int × Row)) : Prop := ∀ A n r B, T = A ++ (n, r) :: B → n = 1 + mx (aheadOf A r)
theorem Lev.snoc {T : List (Int × Row)} (h : Lev T) (r : Row) : Lev (T ++ [(1 + mx (aheadOf T r), r)]) := by
  intro A n q B e
  rcases List.eq_nil_or_concat B with rfl | ⟨B', b, rfl⟩
  · have := List.append_inj' e rfl
    obtain ⟨rfl, e2⟩ := this
    simp only [List.cons.injEq, Prod.mk.injEq, and_true] at e2
    rw [← e2.1, ← e2.2]
  · rw [List.concat_eq_append] at e
    have e' : T ++ [(1 + mx (aheadOf T r), r)] = (A ++ (n, q) :: B') ++ [b] := by rw [e]; simp
    exact h A n q B' (List.append_inj' e' rfl).1
theorem toldLoop_lev : ∀ (S : List Row) (told : List (Int × Row)), Lev told → Lev (toldLoop S told)
  | [], told, h => h
  | r :: s, told, h => toldLoop_lev s _ (h.snoc r)
theorem toldLoop_snd : ∀ (S : List Row) (told : List (Int × Row)), (toldLoop S told).map (·.2) = told.map (·.2) ++ S
  | [], told => by simp [toldLoop]
  | r :: s, told => by
    rw [toldLoop, toldLoop_snd s]
    simp
theorem Lev.pos {T : List (Int × Row)} (h : Lev T) {g : Int × Row} (hg : g ∈ T) : 1 ≤ g.1 := by
  obtain ⟨A, B, e⟩ := List.append_of_mem hg
  have := h A g.1 g.2 B e
  have h2 := mx_nonneg (aheadOf A g.2)
  (first | lia | omega)
/-- those of level t and more -/
noncomputable def fromLev (T : List (Int × Row)) (t : Int) : List Row := (T.filter fun g => decide (t ≤ g.1)).map (·.2)
noncomputable def atLev (T : List (Int × Row)) (t : Int) : List (Int × Row) := T.filter fun g => decide (g.1 = t)
theorem sweep_lev {T : List (Int × Row)} (hT : Lev T) (ht : ∀ g ∈ T, strLt g.2.l tilde = true) {t : Int} (h1 : 1 ≤ t) : ∀ (B A : List (Int × Row)) (least : Str) (gone : List (Int × Row)), T = A ++ B →
    (∀ x : Str, strLt x least = true ↔ (strLt x tilde = true ∧ ∀ g ∈ A, t ≤ g.1 → strLt x g.2.l = true)) →
    sweep t (fromLev B t) least (fromLev A (t + 1)) gone = (fromLev (A ++ B) (t + 1), gone ++ atLev B t)
  | [], A, least, gone, hTe, hL => by
    show (fromLev A (t + 1), gone) = (fromLev (A ++ []) (t + 1), gone ++ [])
    rw [List.append_nil, List.append_nil]
  | (n, r) :: B, A, least, gone, hTe, hL => by
    have hn := hT A n r B hTe
    have e1 : A ++ (n, r) :: B = (A ++ [(n, r)]) ++ B := by simp
    have hTe' : T = (A ++ [(n, r)]) ++ B := by rw [← e1]; exact hTe
    have hr : strLt r.l tilde = true := ht (n, r) (by rw [hTe]; simp)
    by_cases hnt : t ≤ n
    · have e2 : fromLev ((n, r) :: B) t = r :: fromLev B t := by simp [fromLev, hnt]
      rw [e2, sweep]
      by_cases heq : n = t
      · -- it goes out
        have hout : strLt r.l least = true := by
          rw [hL]
          refine ⟨hr, fun g hg hgt => ?_⟩
          cases hs : strLt r.l g.2.l with
          | true => rfl
          | false =>
            have : g.1 ≤ mx (aheadOf A r) := mx_le (by
              unfold aheadOf
              exact List.mem_map.mpr ⟨g, List.mem_filter.mpr ⟨hg, by simp [hs]⟩, rfl⟩)
            (first | lia | omega)
        rw [if_pos hout]
        have e3 : fromLev A (t + 1) = fromLev (A ++ [(n, r)]) (t + 1) := by
          have : ¬ t + 1 ≤ n := by (first | lia | omega)
          simp [fromLev, this]
        rw [e3, sweep_lev hT ht h1 B (A ++ [(n, r)]) r.l (gone ++ [(t, r)]) hTe' ?_, ← e1]
        · have e4 : atLev ((n, r) :: B) t = (n, r) :: atLev B t := by simp [atLev, heq]
          rw [e4, heq]
          simp
        · intro x
          constructor
          · intro hx
            have hxl := sl_trans hx hout
            refine ⟨((hL x).mp hxl).1, fun g hg hgt => ?_⟩
            rcases List.mem_append.mp hg with hg | hg
            · exact ((hL x).mp hxl).2 g hg hgt
            · rw [List.mem_singleton.mp hg]
              exact hx
          · rintro ⟨_, h⟩
            exact h (n, r) (by simp) hnt
      · -- it stays
        have hstay : strLt r.l least = false := by
          cases hs : strLt r.l least with
          | false => rfl
          | true =>
            have h2 := ((hL r.l).mp hs).2
            rcases mx_mem (aheadOf A r) with h0 | hm
            · (first | lia | omega)
            · unfold aheadOf at hm
              obtain ⟨g, hg, hge⟩ := List.mem_map.mp hm
              obtain ⟨hgA, hgs⟩ := List.mem_filter.mp hg
              have h3 := h2 g hgA (by
                have : g.1 = mx (aheadOf A r) := hge
                (first | lia | omega))
              rw [h3] at hgs
              cases hgs
        rw [if_neg (by rw [hstay]; exact Bool.false_ne_true)]
        have e3 : fromLev A (t + 1) ++ [r] = fromLev (A ++ [(n, r)]) (t + 1) := by
          have : t + 1 ≤ n := by (first | lia | omega)
          simp [fromLev, this]
        rw [e3, sweep_lev hT ht h1 B (A ++ [(n, r)]) least gone hTe' ?_, ← e1]
        · have e4 : atLev ((n, r) :: B) t = atLev B t := by simp [atLev, heq]
          rw [e4]
        · intro x
          rw [hL]
          constructor
          · rintro ⟨h3, h4⟩
            refine ⟨h3, fun g hg hgt => ?_⟩
            rcases List.mem_append.mp hg with hg | hg
            · exact h4 g hg hgt
            · rw [List.mem_singleton.mp hg]
              have hxl : strLt x least = true := (hL x).mpr ⟨h3, h4⟩
              cases hs : strLt x r.l with
              | true => rfl
              | false =>
                -- r.l is not above x, x below least: r.l below least
                cases hs2 : strLt r.l x with
                | true => rw [sl_trans hs2 hxl] at hstay; cases hstay
                | false =>
                  have := sl_tri hs hs2
                  rw [this, hstay] at hxl
                  cases hxl
          · rintro ⟨h3, h4⟩
            exact ⟨h3, fun g hg hgt => h4 g (List.mem_append_left _ hg) hgt⟩
    · have e2 : fromLev ((n, r) :: B) t = fromLev B t := by simp [fromLev, hnt]
      have e3 : fromLev A (t + 1) = fromLev (A ++ [(n, r)]) (t + 1) := by
        have : ¬ t + 1 ≤ n := by (first | lia | omega)
        simp [fromLev, this]
      have e4 : atLev ((n, r) :: B) t = atLev B t := by
        have : ¬ n = t := by (first | lia | omega)
        simp [atLev, this]
      rw [e2, e3, sweep_lev hT ht h1 B (A ++ [(n, r)]) least gone hTe' ?_, ← e1, e4]
      intro x
      rw [hL]
      refine and_congr Iff.rfl ⟨fun h g hg hgt => ?_, fun h g hg hgt => h g (List.mem_append_left _ hg) hgt⟩
      rcases List.mem_append.mp hg with hg | hg
      · exact h g hg hgt
      · rw [List.mem_singleton.mp hg] at hgt
        exact absurd hgt hnt
noncomputable def blocks (T : List (Int × Row)) : Nat → Int → List (Int × Row)
  | 0, _ => []
  | f + 1, t => atLev T t ++ blocks T f (t + 1)
theorem blocks_nil {T : List (Int × Row)} : ∀ (f : Nat) (t : Int), fromLev T t = [] → blocks T f t = []
  | 0, _, _ => rfl
  | f + 1, t, h => by
    have h0 : ∀ g ∈ T, ¬ t ≤ g.1 := by
      intro g hg hc
      have : g.2 ∈ fromLev T t := List.mem_map.mpr ⟨g, List.mem_filter.mpr ⟨hg, by simpa using hc⟩, rfl⟩
      rw [h] at this
      cases this
    have h1 : fromLev T (t + 1) = [] := by
      unfold fromLev
      rw [List.map_eq_nil_iff, List.filter_eq_nil_iff]
      intro g hg
      have := h0 g hg
      simp
      (first | lia | omega)
    have h2 : atLev T t = [] := by
      unfold atLev
      rw [List.filter_eq_nil_iff]
      intro g hg
      have := h0 g hg
      simp
      (first | lia | omega)
    rw [blocks, h2, blocks_nil f _ h1]
    rfl
theorem turns_blocks {T : List (Int × Row)} (hT : Lev T) (ht : ∀ g ∈ T, strLt g.2.l tilde = true) (ho : Srt (T.map (·.2))) : ∀ (f : Nat) (t : Int) (pile : List Row) (gone : List (Int × Row)), 1 ≤ t → pile.Perm (fromLev T t) → pile.length ≤ f →
    turnsLoop f pile (t - 1) gone = gone ++ blocks T f t ∧ (blocks T f t).Perm (T.filter fun g => decide (t ≤ g.1))
  | 0, t, pile, gone, h1, hp, hf => by
    have e : pile = [] := List.eq_nil_of_length_eq_zero (by (first | lia | omega))
    subst e
    have e2 : fromLev T t = [] := List.nil_perm.mp hp
    refine ⟨by simp [turnsLoop, blocks], ?_⟩
    unfold fromLev at e2
    rw [List.map_eq_nil_iff] at e2
    rw [e2]
    exact .refl _
  | f + 1, t, pile, gone, h1, hp, hf => by
    by_cases hl : 0 < pile.length
    · have hS : Srt (fromLev T t) := by
        refine List.Pairwise.sublist ?_ ho
        unfold fromLev
        exact List.Sublist.map _ List.filter_sublist
      have hpt : ∀ r ∈ heapifyP pile, strLt r.l tilde = true := by
        intro r hr
        have : r ∈ fromLev T t := hp.subset ((heapifyP_perm pile).subset hr)
        unfold fromLev at this
        obtain ⟨g, hg, rfl⟩ := List.mem_map.mp this
        exact ht g (List.mem_filter.mp hg).1
      have hsw := popLoop_sweep (turn := t) (fromLev T t) (heapifyP pile) [] tilde gone (heapifyP_hp pile) hS (hp.symm.trans (heapifyP_perm pile).symm)
      have hlv := sweep_lev hT ht h1 T [] tilde gone rfl (by simp)
      have e0 : fromLev [] (t + 1) = [] := rfl
      rw [e0, List.nil_append] at hlv
      rw [hlv, heapifyP_len] at hsw
      have hless := popLoop_less (turn := t) (gone := gone) (pile := heapifyP pile) (by rw [heapifyP_len]; exact hl) hpt
      rw [heapifyP_len, hsw] at hless
      have e1 : t - 1 + 1 = t := by (first | lia | omega)
      have e2 : t = t + 1 - 1 := by (first | lia | omega)
      have ih := turns_blocks hT ht ho f (t + 1) (fromLev T (t + 1)) (gone ++ atLev T t) (by (first | lia | omega)) (.refl _) (by simp only at hless; (first | lia | omega))
      rw [← e2] at ih
      refine ⟨?_, ?_⟩
      · rw [turnsLoop, if_pos hl, e1, hsw]
        simp only
        rw [ih.1, blocks, List.append_assoc]
      · rw [blocks]
        refine List.Perm.trans (List.Perm.append_left _ ih.2) ?_
        have : ∀ (X : List (Int × Row)), (atLev X t ++ X.filter fun g => decide (t + 1 ≤ g.1)).Perm (X.filter fun g => decide (t ≤ g.1)) := by
          intro X
          induction X with
          | nil => exact .refl _
          | cons g X ih =>
            unfold atLev at *
            by_cases c1 : g.1 = t
            · have c2 : ¬ t + 1 ≤ g.1 := by (first | lia | omega)
              have c3 : t ≤ g.1 := by (first | lia | omega)
              have d1 : decide (g.1 = t) = true := decide_eq_true c1
              have d2 : decide (t + 1 ≤ g.1) = false := decide_eq_false c2
              have d3 : decide (t ≤ g.1) = true := decide_eq_true c3
              simp only [List.filter_cons, d1, d2, d3, if_true, Bool.false_eq_true, if_false]
              exact ih.cons g
            · by_cases c3 : t ≤ g.1
              · have c2 : t + 1 ≤ g.1 := by (first | lia | omega)
                simp only [List.filter_cons, c1, c2, c3, decide_true, decide_false, if_true, Bool.false_eq_true, if_false]
                exact List.perm_middle.trans (ih.cons g)
              · have c2 : ¬ t + 1 ≤ g.1 := by (first | lia | omega)
                simp only [List.filter_cons, c1, c2, c3, decide_true, decide_false, if_true, Bool.false_eq_true, if_false]
                exact ih
        exact this T
    · have e : pile = [] := List.eq_nil_of_length_eq_zero (by (first | lia | omega))
      subst e
      have e2 : fromLev T t = [] := List.nil_perm.mp hp
      rw [turnsLoop_nil (by simp), blocks_nil _ _ e2, List.append_nil]
      refine ⟨rfl, ?_⟩
      unfold fromLev at e2
      rw [List.map_eq_nil_iff] at e2
      rw [e2]
/-! the order of (length, row) -/
noncomputable def gLt (a b : Int × Row) : Bool := if a.1 = b.1 then rowLt a.2 b.2 else decide (a.1 < b.1)
noncomputable def gLe (a b : Int × Row) : Prop := gLt b a = false
theorem gLe.antisymm {a b : Int × Row} (h1 : gLe a b) (h2 : gLe b a) : a = b := by
  unfold gLe gLt at *
  by_cases e : a.1 = b.1
  · rw [if_pos e] at h2
    rw [if_pos e.symm] at h1
    exact Prod.ext e (rl_tri h2 h1)
  · rw [if_neg e] at h2
    rw [if_neg (Ne.symm e)] at h1
    simp only [decide_eq_false_iff_not] at *
    (first | lia | omega)
theorem gLe.refl (a : Int × Row) : gLe a a := by simp [gLe, gLt, rl_irrefl]
theorem gSrt_uniq : ∀ {a b : List (Int × Row)}, a.Perm b → a.Pairwise gLe → b.Pairwise gLe → a = b
  | [], b, p, _, _ => by rw [List.nil_perm.mp p]
  | x :: a, b, p, oa, ob => by
    cases b with
    | nil => exact absurd p.length_eq (by simp)
    | cons y b =>
      have e : x = y := by
        have hx : x ∈ y :: b := p.subset (.head _)
        have hy : y ∈ x :: a := p.symm.subset (.head _)
        rcases List.mem_cons.mp hx with e | hx
        · exact e
        · rcases List.mem_cons.mp hy with e | hy
          · exact e.symm
          · exact gLe.antisymm ((List.pairwise_cons.mp oa).1 y hy) ((List.pairwise_cons.mp ob).1 x hx)
      subst e
      rw [gSrt_uniq (List.Perm.cons_inv p) (List.pairwise_cons.mp oa).2 (List.pairwise_cons.mp ob).2]
theorem blocks_ge {T : List (Int × Row)} : ∀ (f : Nat) (t : Int), ∀ g ∈ blocks T f t, t ≤ g.1
  | 0, _, _, h => nomatch h
  | f + 1, t, g, h => by
    rw [blocks] at h
    rcases List.mem_append.mp h with h | h
    · unfold atLev at h
      have := (List.mem_filter.mp h).2
      simp at this
      (first | lia | omega)
    · have := blocks_ge f (t + 1) g h
      (first | lia | omega)
theorem blocks_srt {T : List (Int × Row)} (ho : Srt (T.map (·.2))) : ∀ (f : Nat) (t : Int), (blocks T f t).Pairwise gLe
  | 0, _ => .nil
  | f + 1, t => by
    rw [blocks, List.pairwise_append]
    refine ⟨?_, blocks_srt ho f (t + 1), fun a ha b hb => ?_⟩
    · have h1 : (atLev T t).Pairwise fun a b => Le a.2 b.2 := by
        unfold atLev
        refine List.Pairwise.sublist List.filter_sublist ?_
        exact List.pairwise_map.mp ho
      refine List.Pairwise.imp_of_mem ?_ h1
      intro a b ha hb hab
      have ea : a.1 = t := by simpa using (List.mem_filter.mp ha).2
      have eb : b.1 = t := by simpa using (List.mem_filter.mp hb).2
      unfold gLe gLt
      rw [if_pos (by rw [ea, eb])]
      exact hab
    · have ea : a.1 = t := by simpa using (List.mem_filter.mp ha).2
      have := blocks_ge f (t + 1) b hb
      unfold gLe gLt
      rw [if_neg (by (first | lia | omega))]
      simp
      (first | lia | omega)
/-- THE LAW, plain: what goes out turn by turn is what the rises tell, sorted -/
theorem turns_rises {rows S : List Row} {Z : List (Int × Row)} (ht : ∀ r ∈ rows, strLt r.l tilde = true) (hp : S.Perm rows) (ho : Srt S) (hz : Z.Perm (toldLoop S [])) (hzo : Z.Pairwise gLe) : turnsP rows = Z := by
  have hs : (toldLoop S []).map (·.2) = S := by rw [toldLoop_snd]; rfl
  have hT : Lev (toldLoop S []) := toldLoop_lev S [] (by intro A n r B e; simp at e)
  have ht' : ∀ g ∈ toldLoop S [], strLt g.2.l tilde = true := by
    intro g hg
    have : g.2 ∈ S := by rw [← hs]; exact List.mem_map.mpr ⟨g, hg, rfl⟩
    exact ht _ (hp.subset this)
  have ho' : Srt ((toldLoop S []).map (·.2)) := by rw [hs]; exact ho
  have hall : (toldLoop S []).filter (fun g => decide ((1 : Int) ≤ g.1)) = toldLoop S [] := by
    rw [List.filter_eq_self]
    intro g hg
    simpa using hT.pos hg
  have hf : fromLev (toldLoop S []) 1 = S := by
    unfold fromLev
    rw [hall, hs]
  have h := turns_blocks hT ht' ho' rows.length 1 rows [] (by (first | lia | omega)) (by rw [hf]; exact hp.symm) (Nat.le_refl _)
  rw [hall] at h
  unfold turnsP
  have e : (1 : Int) - 1 = 0 := by (first | lia | omega)
  rw [e] at h
  rw [h.1, List.nil_append]
  exact gSrt_uniq (h.2.trans hz.symm) (blocks_srt ho' _ _) hzo
end HLx
section HOx
set_option maxRecDepth 100000
set_option maxHeartbeats 4000000
/-! the tree of questions that a sort asks, answered by an order without equals -/
noncomputable def pw {α : Type} (c : Nat → Nat → Bool) (N : Nat) : KasT α → (α → Prop) → Prop
  | .ret a, P => P a
  | .ask i j k, P => i < N ∧ j < N ∧ pw c N (k (c i j)) P
theorem pw_mono {α : Type} {c : Nat → Nat → Bool} {N : Nat} {P P' : α → Prop} (h : ∀ a, P a → P' a) : ∀ (t : KasT α), pw c N t P → pw c N t P'
  | .ret a, hp => h a hp
  | .ask i j k, hp => ⟨hp.1, hp.2.1, pw_mono h (k (c i j)) hp.2.2⟩
theorem pw_bind {α β : Type} {c : Nat → Nat → Bool} {N : Nat} {f : α → KasT β} {P : β → Prop} : ∀ (t : KasT α), pw c N t (fun a => pw c N (f a) P) → pw c N (t.bind f) P
  | .ret _, hp => hp
  | .ask i j k, hp => ⟨hp.1, hp.2.1, pw_bind (k (c i j)) hp.2.2⟩
theorem pw_run {α : Type} {c : Nat → Nat → Bool} {N : Nat} {cmp : Nat → Nat → (Bool → Shared → Prop) → Shared → Prop} {s : Shared} {Q : α → Shared → Prop} {P : α → Prop}
    (hc : ∀ i j C, i < N → j < N → C (c i j) s → cmp i j C s) (hq : ∀ a, P a → Q a s) : ∀ (t : KasT α), pw c N t P → t.kasWp cmp Q s
  | .ret a, hp => hq a hp
  | .ask i j k, hp => hc i j _ hp.1 hp.2.1 (pw_run hc hq (k (c i j)) hp.2.2)
section
variable {c : Nat → Nat → Bool} {N : Nat}
structure Ordr (c : Nat → Nat → Bool) (N : Nat) : Prop where
  pos : 0 < N
  tr : ∀ a b d, c a b = true → c b d = true → c a d = true
  asym : ∀ a b, c a b = true → c b a = false
  tot : ∀ a b, a < N → b < N → a ≠ b → c a b = false → c b a = true
structure Ok (N : Nat) (p : Array Nat) : Prop where
  perm : p.toList.Perm (List.range N)
noncomputable abbrev gt (p : Array Nat) (i : Nat) : Nat := p.getD i 0
theorem gt_eq (p : Array Nat) (i : Nat) : gt p i = (p[i]?).getD 0 := by
  unfold gt
  rw [Array.getD_eq_getD_getElem?]
theorem Ok.size {p : Array Nat} (o : Ok N p) : p.size = N := by
  have := o.perm.length_eq
  simpa using this
theorem Ok.lt {p : Array Nat} (o : Ok N p) (hN : 0 < N) (i : Nat) : gt p i < N := by
  rw [gt_eq]
  by_cases h : i < p.size
  · rw [Array.getElem?_eq_getElem h]
    have : p[i] ∈ p.toList := by simp
    have := o.perm.subset this
    simpa using this
  · rw [Array.getElem?_eq_none (by (first | lia | omega))]
    exact hN
theorem Ok.ne {p : Array Nat} (o : Ok N p) {i j : Nat} (hi : i < N) (hj : j < N) (h : i ≠ j) : gt p i ≠ gt p j := by
  have hnd : p.toList.Nodup := o.perm.nodup_iff.mpr List.nodup_range
  have hs := o.size
  have hp : ∀ a b, (ha : a < N) → (hb : b < N) → a < b → gt p a ≠ gt p b := by
    intro a b ha hb hab
    rw [gt_eq, gt_eq, Array.getElem?_eq_getElem (by (first | lia | omega)), Array.getElem?_eq_getElem (by (first | lia | omega))]
    have := List.pairwise_iff_getElem.mp hnd a b (by simpa using (by (first | lia | omega) : a < p.size)) (by simpa using (by (first | lia | omega) : b < p.size)) hab
    simpa using this
  rcases Nat.lt_or_gt_of_ne h with h | h
  · exact hp i j hi hj h
  · exact (hp j i hj hi h).symm
noncomputable def Asc (c : Nat → Nat → Bool) (p : Array Nat) (m : Nat) : Prop := ∀ i j, i < j → j < m → c (gt p i) (gt p j) = true
theorem Asc.step {p : Array Nat} (O : Ordr c N) {m : Nat} (h : Asc c p m) (h1 : 0 < m → c (gt p (m - 1)) (gt p m) = true) : Asc c p (m + 1) := by
  intro i j hij hj
  by_cases e : j < m
  · exact h i j hij e
  · have ej : j = m := by (first | lia | omega)
    subst ej
    by_cases ei : i = j - 1
    · rw [ei]
      exact h1 (by (first | lia | omega))
    · exact O.tr _ _ _ (h i (j - 1) (by (first | lia | omega)) (by (first | lia | omega))) (h1 (by (first | lia | omega)))
theorem asc_pw {p : Array Nat} (O : Ordr c N) (o : Ok N p) : ∀ (f k : Nat), 1 ≤ k → k + f ≤ N → Asc c p k → pw c N (kas_asc p f k) fun m => k ≤ m ∧ m ≤ k + f ∧ Asc c p m ∧ (m = k + f ∨ c (gt p m) (gt p (m - 1)) = true)
  | 0, k, hk, hf, hA => ⟨Nat.le_refl _, Nat.le_refl _, hA, .inl rfl⟩
  | f + 1, k, hk, hf, hA => by
    rw [kas_asc]
    refine ⟨o.lt O.pos _, o.lt O.pos _, ?_⟩
    cases h : c (p.getD k 0) (p.getD (k - 1) 0) with
    | true =>
      dsimp only
      rw [if_pos rfl]
      exact ⟨Nat.le_refl _, by (first | lia | omega), hA, .inr h⟩
    | false =>
      dsimp only
      rw [if_neg Bool.false_ne_true]
      have h1 : c (gt p (k - 1)) (gt p k) = true := O.tot _ _ (o.lt O.pos _) (o.lt O.pos _) (o.ne (by (first | lia | omega)) (by (first | lia | omega)) (by (first | lia | omega))) h
      refine pw_mono ?_ _ (asc_pw O o f (k + 1) (by (first | lia | omega)) (by (first | lia | omega)) (hA.step O fun _ => h1))
      rintro m ⟨a1, a2, a3, a4⟩
      exact ⟨by (first | lia | omega), by (first | lia | omega), a3, a4.imp (by (first | lia | omega)) id⟩
/-- a falling run -/
noncomputable def Dsc (c : Nat → Nat → Bool) (p : Array Nat) (m : Nat) : Prop := ∀ i j, i < j → j < m → c (gt p j) (gt p i) = true
theorem Dsc.step {p : Array Nat} (O : Ordr c N) {m : Nat} (h : Dsc c p m) (h1 : 0 < m → c (gt p m) (gt p (m - 1)) = true) : Dsc c p (m + 1) := by
  intro i j hij hj
  by_cases e : j < m
  · exact h i j hij e
  · have ej : j = m := by (first | lia | omega)
    subst ej
    by_cases ei : i = j - 1
    · rw [ei]
      exact h1 (by (first | lia | omega))
    · exact O.tr _ _ _ (h1 (by (first | lia | omega))) (h i (j - 1) (by (first | lia | omega)) (by (first | lia | omega)))
theorem desc_pw {p : Array Nat} (O : Ordr c N) (o : Ok N p) : ∀ (f k : Nat), 1 ≤ k → k + f ≤ N → Dsc c p k → pw c N (kas_desc f p k 0) fun r => r.1 = p ∧ r.2.2 = 0 ∧ k ≤ r.2.1 ∧ r.2.1 ≤ k + f ∧ Dsc c p r.2.1
  | 0, k, hk, hf, hA => ⟨rfl, rfl, Nat.le_refl _, Nat.le_refl _, hA⟩
  | f + 1, k, hk, hf, hA => by
    rw [kas_desc]
    refine ⟨o.lt O.pos _, o.lt O.pos _, ?_⟩
    cases h : c (p.getD k 0) (p.getD (k - 1) 0) with
    | true =>
      dsimp only
      rw [if_pos rfl, if_neg (by (first | lia | omega))]
      refine pw_mono ?_ _ (desc_pw O o f (k + 1) (by (first | lia | omega)) (by (first | lia | omega)) (hA.step O fun _ => h))
      rintro r ⟨a0, a1, a2, a3, a4⟩
      exact ⟨a0, a1, by (first | lia | omega), by (first | lia | omega), a4⟩
    | false =>
      dsimp only
      rw [if_neg Bool.false_ne_true]
      have h1 : c (p.getD (k - 1) 0) (p.getD k 0) = true := O.tot _ _ (o.lt O.pos _) (o.lt O.pos _) (o.ne (by (first | lia | omega)) (by (first | lia | omega)) (by (first | lia | omega))) h
      refine ⟨o.lt O.pos _, o.lt O.pos _, ?_⟩
      rw [h1]
      dsimp only
      rw [if_pos rfl]
      exact ⟨rfl, rfl, Nat.le_refl _, by show k ≤ k + (f + 1); (first | lia | omega), hA⟩
theorem Ok.of_perm {p q : Array Nat} (o : Ok N p) (h : q.Perm p) : Ok N q := ⟨(Array.perm_iff_toList_perm.mp h).trans o.perm⟩
theorem rev_gt {p : Array Nat} {m : Nat} (hm : m ≤ p.size) (k : Nat) : gt (kas_rev p 0 m) k = if k < m then gt p (m - 1 - k) else gt p k := by
  rw [gt_eq, kas_rev, getElem?_mirror_all hm]
  by_cases h : k < m
  · rw [if_pos ⟨Nat.zero_le _, h⟩, if_pos h, gt_eq, Nat.zero_add]
  · rw [if_neg (by (first | lia | omega)), if_neg h, gt_eq]
theorem rev_asc {p : Array Nat} {m : Nat} (hm : m ≤ p.size) (h : Dsc c p m) : Asc c (kas_rev p 0 m) m := by
  intro i j hij hj
  rw [rev_gt hm, rev_gt hm, if_pos (by (first | lia | omega)), if_pos hj]
  exact h _ _ (by (first | lia | omega)) (by (first | lia | omega))
noncomputable def CountOk (c : Nat → Nat → Bool) (N : Nat) (r : Nat × Array Nat) : Prop := 1 ≤ r.1 ∧ r.1 ≤ N ∧ Ok N r.2 ∧ Asc c r.2 r.1
theorem tail3_pw {p : Array Nat} (O : Ordr c N) (o : Ok N p) {m : Nat} (h1 : 1 ≤ m) (hm : m ≤ N) (hD : Dsc c p m) : pw c N (kas_tail3 m N p) (CountOk c N) := by
  unfold kas_tail3
  refine pw_bind _ ?_
  have o2 : Ok N (kas_rev p 0 m) := o.of_perm (mirror_perm _ _ _ _)
  refine pw_mono ?_ _ (asc_pw O o2 (N - m) m h1 (by (first | lia | omega)) (rev_asc (by rw [o.size]; exact hm) hD))
  rintro k ⟨a1, a2, a3, a4⟩
  exact ⟨by show 1 ≤ k; (first | lia | omega), by show k ≤ N; (first | lia | omega), o2, a3⟩
theorem count_pw {p : Array Nat} (O : Ordr c N) (o : Ok N p) : pw c N (kas_count N p) (CountOk c N) := by
  have hN := O.pos
  unfold kas_count
  refine pw_bind _ (pw_mono ?_ _ (asc_pw O o (N - 1) 1 (Nat.le_refl _) (by (first | lia | omega)) (by intro i j hij hj; (first | lia | omega))))
  rintro m ⟨a1, a2, a3, a4⟩
  by_cases e : m = N
  · rw [if_pos (by simpa using e)]
    exact ⟨a1, by show m ≤ N; (first | lia | omega), o, a3⟩
  · rw [if_neg (by simpa using e)]
    by_cases h1 : m > 1
    · rw [if_pos h1]
      refine ⟨o.lt hN _, o.lt hN _, ?_⟩
      have h2 : c (p.getD 0 0) (p.getD (m - 1) 0) = true := a3 0 (m - 1) (by (first | lia | omega)) (by (first | lia | omega))
      rw [h2]
      dsimp only
      rw [if_pos rfl]
      exact ⟨a1, by show m ≤ N; (first | lia | omega), o, a3⟩
    · rw [if_neg h1]
      have em : m = 1 := by (first | lia | omega)
      subst em
      have hc : c (gt p 1) (gt p 0) = true := a4.resolve_left (by (first | lia | omega))
      unfold kas_descPart
      refine pw_bind _ (pw_mono ?_ _ (desc_pw O o (N - (1 + 1)) (1 + 1) (by (first | lia | omega)) (by (first | lia | omega)) ?_))
      · rintro ⟨q, k, z⟩ ⟨b0, b1, b2, b3, b4⟩
        simp only at b0 b1 b2 b3 b4
        subst b0 b1
        rw [if_neg (by simp)]
        exact tail3_pw O o (by show 1 ≤ k; (first | lia | omega)) (by show k ≤ N; (first | lia | omega)) b4
      · intro i j hij hj
        have ei : i = 0 := by (first | lia | omega)
        have ej : j = 1 := by (first | lia | omega)
        subst ei ej
        exact hc
theorem place_pw {p : Array Nat} (O : Ordr c N) (o : Ok N p) {k : Nat} (hk : k < N) (hA : Asc c p k) : ∀ (f l r : Nat), l ≤ r → r ≤ k → r - l ≤ f → (∀ i, i < l → c (gt p i) (gt p k) = true) → (∀ i, r ≤ i → i < k → c (gt p k) (gt p i) = true) →
    pw c N (kas_place p k f l r) fun q => q ≤ k ∧ (∀ i, i < q → c (gt p i) (gt p k) = true) ∧ (∀ i, q ≤ i → i < k → c (gt p k) (gt p i) = true)
  | 0, l, r, h1, h2, h3, hl, hr => by
    rw [kas_place]
    exact ⟨by (first | lia | omega), hl, fun i hi hik => hr i (by (first | lia | omega)) hik⟩
  | f + 1, l, r, h1, h2, h3, hl, hr => by
    rw [kas_place]
    by_cases hge : l ≥ r
    · rw [if_pos hge]
      exact ⟨by (first | lia | omega), hl, fun i hi hik => hr i (by (first | lia | omega)) hik⟩
    · rw [if_neg hge]
      refine ⟨o.lt O.pos _, o.lt O.pos _, ?_⟩
      cases h : c (p.getD k 0) (p.getD ((l + r) / 2) 0) with
      | true =>
        dsimp only
        rw [if_pos rfl]
        refine place_pw O o hk hA f l ((l + r) / 2) (by (first | lia | omega)) (by (first | lia | omega)) (by (first | lia | omega)) hl fun i hi hik => ?_
        by_cases e : i = (l + r) / 2
        · rw [e]; exact h
        · exact O.tr _ _ _ h (hA _ _ (by (first | lia | omega)) hik)
      | false =>
        dsimp only
        rw [if_neg Bool.false_ne_true]
        have h1' : c (gt p ((l + r) / 2)) (gt p k) = true := O.tot _ _ (o.lt O.pos _) (o.lt O.pos _) (o.ne hk (by (first | lia | omega)) (by (first | lia | omega))) h
        refine place_pw O o hk hA f ((l + r) / 2 + 1) r (by (first | lia | omega)) h2 (by (first | lia | omega)) (fun i hi => ?_) hr
        by_cases e : i = (l + r) / 2
        · rw [e]; exact h1'
        · exact O.tr _ _ _ (hA _ _ (by (first | lia | omega)) (by (first | lia | omega))) h1'
theorem bubble_gt {p : Array Nat} {k q : Nat} (hk : k < p.size) (hq : q ≤ k) (i : Nat) : gt (bubble p k (k - q)) i = if i = q then gt p k else if q < i ∧ i ≤ k then gt p (i - 1) else gt p i := by
  rw [gt_eq, getElem?_bubble hk _ (by (first | lia | omega))]
  have e : k - (k - q) = q := by (first | lia | omega)
  rw [e]
  by_cases h1 : i = q
  · rw [if_pos h1, if_pos h1, gt_eq]
  · rw [if_neg h1, if_neg h1]
    by_cases h2 : q < i ∧ i ≤ k
    · rw [if_pos h2, if_pos h2, gt_eq]
    · rw [if_neg h2, if_neg h2, gt_eq]
theorem bin_pw (O : Ordr c N) : ∀ (f : Nat) (p : Array Nat) (k : Nat), Ok N p → k + f = N → Asc c p k → pw c N (kas_bin f p k) fun q => Ok N q ∧ Asc c q N
  | 0, p, k, o, h, hA => by
    have : k = N := by (first | lia | omega)
    subst this
    exact ⟨o, hA⟩
  | f + 1, p, k, o, h, hA => by
    rw [kas_bin]
    refine pw_bind _ (pw_mono ?_ _ (place_pw O o (by (first | lia | omega)) hA k 0 k (Nat.zero_le _) (Nat.le_refl _) (by (first | lia | omega)) (fun i hi => absurd hi (Nat.not_lt_zero _)) fun i hi hik => absurd hi (by (first | lia | omega))))
    rintro q ⟨hq, hl, hr⟩
    have hks : k < p.size := by rw [o.size]; (first | lia | omega)
    refine bin_pw O f _ (k + 1) (o.of_perm (bubble_perm _ _ _)) (by (first | lia | omega)) fun i j hij hj => ?_
    rw [bubble_gt hks hq, bubble_gt hks hq]
    by_cases ei : i = q
    · rw [if_pos ei, if_neg (by (first | lia | omega)), if_pos (by (first | lia | omega))]
      exact hr _ (by (first | lia | omega)) (by (first | lia | omega))
    · rw [if_neg ei]
      by_cases ej : j = q
      · rw [if_pos ej, if_neg (by (first | lia | omega))]
        exact hl i (by (first | lia | omega))
      · rw [if_neg ej]
        by_cases hiq : q < i ∧ i ≤ k
        · rw [if_pos hiq, if_pos (by (first | lia | omega))]
          exact hA _ _ (by (first | lia | omega)) (by (first | lia | omega))
        · rw [if_neg hiq]
          by_cases hjq : q < j ∧ j ≤ k
          · rw [if_pos hjq]
            exact hA _ _ (by (first | lia | omega)) (by (first | lia | omega))
          · rw [if_neg hjq]
            exact hA _ _ hij (by (first | lia | omega))
theorem sort_pw (O : Ordr c N) : pw c N (kas_sort N) fun q => Ok N q ∧ Asc c q N := by
  unfold kas_sort
  refine pw_bind _ (pw_mono ?_ _ (count_pw O ⟨by simp⟩))
  rintro ⟨m, p⟩ ⟨h1, h2, o, hA⟩
  simp only at h1 h2 o hA ⊢
  split
  · have e : max m 1 = m := by (first | lia | omega)
    rw [e]
    exact bin_pw O _ p m o (by (first | lia | omega)) hA
  · have e : m = N := by (first | lia | omega)
    subst e
    exact ⟨o, hA⟩
end
end HOx
section HZx
set_option maxRecDepth 100000
set_option maxHeartbeats 4000000
theorem map_range_getD {α : Type} (l : List α) (d : α) : (List.range l.length).map (fun i => l.getD i d) = l := by
  apply List.ext_getElem?
  intro i
  rw [List.getElem?_map]
  by_cases h : i < l.length
  · rw [List.getElem?_range h, List.getElem?_eq_getElem h]
    simp [List.getD_eq_getElem?_getD, h]
  · rw [List.getElem?_eq_none (by simpa using h), List.getElem?_eq_none (by (first | lia | omega))]
    rfl
theorem ok_perm {α : Type} {p : Array Nat} {l : List α} {d : α} (o : Ok l.length p) : (p.toList.map fun i => l.getD i d).Perm l := by
  have := List.Perm.map (fun i => l.getD i d) o.perm
  rw [map_range_getD] at this
  exact this
theorem asc_pairwise {c : Nat → Nat → Bool} {N : Nat} {p : Array Nat} (o : Ok N p) (hA : Asc c p N) : p.toList.Pairwise fun a b => c a b = true := by
  rw [List.pairwise_iff_getElem]
  intro i j hi hj hij
  have hs := o.size
  have := hA i j hij (by simpa [hs] using hj)
  have e : ∀ k (hk : k < p.toList.length), gt p k = p.toList[k] := by
    intro k hk
    rw [gt_eq, Array.getElem?_eq_getElem (by simpa using hk)]
    simp
  rw [e i hi, e j hj] at this
  exact this
section
variable {prog : Program} {w : World} {A : Around} {E : Value → Shared → Prop} {s : Shared}
theorem rows_firsts {h : Heap} {nw : List (Addr × Obj)} (hg : ∀ q ∈ nw, h.get? q.1 = some q.2) : ∀ {vs : List Value} {rows : List Row}, RowsIn nw vs rows → ∃ fs, KatTups h vs fs ∧ fs.length = vs.length ∧ ∀ f ∈ fs, ∃ x t, f = Value.str x t
  | [], rows, hr => ⟨[], trivial, rfl, fun _ hf => nomatch hf⟩
  | v :: vs, rows, hr => by
    cases rows with
    | nil => exact absurd hr.1 (by simp)
    | cons r rows =>
      obtain ⟨a, t1, t2, t3, rfl, hm⟩ := hr.2 0 v r rfl rfl
      have hr2 : RowsIn nw vs rows := ⟨by simpa using hr.1, fun i v' r' h1 h2 => hr.2 (i + 1) v' r' (by simpa using h1) (by simpa using h2)⟩
      obtain ⟨fs, k1, k2, k3⟩ := rows_firsts hg hr2
      refine ⟨.str r.w t1 :: fs, KatTups.cons (hg _ hm) rfl rfl rfl k1, by simp [k2], fun f hf => ?_⟩
      rcases List.mem_cons.mp hf with rfl | hf
      · exact ⟨_, _, rfl⟩
      · exact k3 f hf
theorem keyLt_row {a b : Addr} {r q : Row} {t1 t2 t3 u1 u2 u3 : Tok} {Q : Bool → Shared → Prop} (ha : s.heap.get? a = some (tup3 r t1 t2 t3)) (hb : s.heap.get? b = some (tup3 q u1 u2 u3))
    (h : Q (rowLt r q) s) : wpAny (model prog w) A (keyLt' (tuples' true) (.ref a) (.ref b)) Q E s := by
  refine kat_lt ha rfl hb rfl ?_
  show KatLex prog w A true (decide (3 < 3)) Q [(Value.str r.w t1, Value.str q.w u1), (Value.str r.l t2, Value.str q.l u2), (Value.int r.p t3, Value.int q.p u3)] 0 s
  refine kat_cons (SeqAt.EqAt.str_str r.w t1 q.w u1 _ _ _ _ ?_)
  by_cases hw : r.w = q.w
  · rw [show (r.w == q.w) = true by simpa using hw]
    refine kat_yes (kat_cons (SeqAt.EqAt.str_str r.l t2 q.l u2 _ _ _ _ ?_))
    by_cases hl : r.l = q.l
    · rw [show (r.l == q.l) = true by simpa using hl]
      refine kat_yes (kat_cons (SeqAt.EqAt.int_int r.p t3 q.p u3 _ _ _ _ ?_))
      have hr : rowLt r q = decide (r.p < q.p) := by simp [rowLt, hw, hl]
      by_cases hp : r.p = q.p
      · rw [show (r.p == q.p) = true by simpa using hp]
        refine kat_yes (kat_nil ?_)
        have : rowLt r q = decide (3 < 3) := by rw [hr]; simp [hp]
        rw [← this]
        exact h
      · rw [show (r.p == q.p) = false by simpa using hp]
        refine kat_no (kat_one _ _ (lt_int ?_))
        show Q _ s
        rw [← hr]
        exact h
    · rw [show (r.l == q.l) = false by simpa using hl]
      have hr : rowLt r q = strLt r.l q.l := by simp [rowLt, hw, hl]
      refine kat_no (kat_one _ _ (lt_str ?_))
      show Q _ s
      rw [hr] at h
      exact h
  · rw [show (r.w == q.w) = false by simpa using hw]
    have hr : rowLt r q = strLt r.w q.w := by simp [rowLt, hw]
    refine kat_no (oneLt_str ?_)
    rw [hr] at h
    exact h
theorem RowsIn.perm {nw : List (Addr × Obj)} {vs : List Value} {rows : List Row} (hr : RowsIn nw vs rows) {p : Array Nat} (o : Ok rows.length p) :
    RowsIn nw (p.toList.map fun i => vs.getD i Value.none) (p.toList.map fun i => rows.getD i row0) := by
  refine ⟨by simp, fun i v r h1 h2 => ?_⟩
  rw [List.getElem?_map] at h1 h2
  cases e : p.toList[i]? with
  | none => rw [e] at h1; cases h1
  | some k =>
    rw [e] at h1 h2
    simp only [Option.map_some, Option.some.injEq] at h1 h2
    subst h1 h2
    have hk : k < rows.length := by
      have : k ∈ p.toList := List.mem_of_getElem? e
      simpa using o.perm.subset this
    obtain ⟨a, t1, t2, t3, hv, hm⟩ := hr.get hk
    refine ⟨a, t1, t2, t3, ?_, hm⟩
    rw [List.getD_eq_getElem?_getD, hv]
    rfl
theorem row_ordr {rows : List Row} (h0 : 0 < rows.length) (hnd : rows.Nodup) : Ordr (fun i j => rowLt (rows.getD i row0) (rows.getD j row0)) rows.length where
  pos := h0
  tr := fun _ _ _ h1 h2 => rl_trans h1 h2
  asym := fun _ _ h => rl_asymm h
  tot := fun a b ha hb hne h => by
    cases h2 : rowLt (rows.getD b row0) (rows.getD a row0) with
    | true => rfl
    | false =>
      have e := rl_tri h h2
      have ea : rows.getD a row0 = rows[a] := by simp [List.getD_eq_getElem?_getD, ha]
      have eb : rows.getD b row0 = rows[b] := by simp [List.getD_eq_getElem?_getD, hb]
      rw [ea, eb] at e
      rcases Nat.lt_or_gt_of_ne hne with hlt | hlt
      · exact absurd e (List.pairwise_iff_getElem.mp hnd a b ha hb hlt)
      · exact absurd e.symm (List.pairwise_iff_getElem.mp hnd b a hb ha hlt)
theorem sorted_rows {h₀ : Heap} {L D : Addr} {m : Str → Option Value} {news nw : List (Addr × Obj)} {vs : List Value} {rows : List Row} {n : Nat} {Q : Value → Shared → Prop}
    (F : Fr h₀ L s.heap m) (N : News h₀ L s.heap news) (hD : (D, listOf vs.toArray n) ∈ news) (hnw : ∀ q ∈ nw, q ∈ news) (hr : RowsIn nw vs rows) (h2 : 2 ≤ rows.length) (h64 : rows.length < 64) (hnd : rows.Nodup)
    (h : ∀ D' c h' vs' rows', Fr h₀ L h' m → News h₀ L h' ((D', listOf vs'.toArray c) :: news) → (∀ q ∈ news, q.1 < D') → RowsIn nw vs' rows' → rows'.Perm rows → Srt rows' → Q (.ref D') { s with heap := h' }) :
    wpAny (model prog w) A (call (.builtin "sorted") [.ref D]) Q E s := by
  have hl : vs.length = rows.length := hr.1
  refine kat_sorted F N (PySem.IsL.isList (n := n) (N _ hD).1) (by (first | lia | omega)) (by (first | lia | omega)) fun D' e1 h' F' N' hlt => ?_
  have hg : ∀ q ∈ nw, h'.get? q.1 = some q.2 := fun q hq => (N' q (.tail _ (hnw q hq))).1
  obtain ⟨fs, k1, k2, k3⟩ := rows_firsts hg hr
  refine kat_kind (s := { s with heap := h' }) k1 (by (first | lia | omega)) (T := .type "str") (fun f hf => ?_) (by decide) ?_
  · obtain ⟨x, t, rfl⟩ := k3 f hf
    exact Looks.of_pure rfl
  · rw [show (Value.type "str" != Value.type "tuple") = true by decide, hl]
    refine pw_run (c := fun i j => rowLt (rows.getD i row0) (rows.getD j row0)) (N := rows.length) (P := fun q => Ok rows.length q ∧ Asc (fun i j => rowLt (rows.getD i row0) (rows.getD j row0)) q rows.length) ?_ ?_ _ (sort_pw (row_ordr (by (first | lia | omega)) hnd))
    · intro i j C hi hj hC
      obtain ⟨a, t1, t2, t3, hv, hm⟩ := hr.get hi
      obtain ⟨b, u1, u2, u3, hv', hm'⟩ := hr.get hj
      unfold kas_ask
      rw [List.getD_eq_getElem?_getD, List.getD_eq_getElem?_getD, hv, hv']
      exact keyLt_row (s := { s with heap := h' }) (hg _ hm) (hg _ hm') hC
    · rintro p ⟨o, hA⟩
      refine KasFin.intro F' N' (UpdF.head fun q hq => Nat.ne_of_lt (hlt q hq)) fun h3 c F3 N3 => ?_
      refine h D' c h3 _ (p.toList.map fun i => rows.getD i row0) F3 N3 hlt (hr.perm o) (ok_perm o) ?_
      unfold Srt
      rw [List.pairwise_map]
      exact (asc_pairwise o hA).imp fun hab => Le.of_lt hab
/-! the same for (length, row) -/
theorem eq_row {a b : Addr} {r q : Row} {t1 t2 t3 u1 u2 u3 : Tok} (ha : s.heap.get? a = some (tup3 r t1 t2 t3)) (hb : s.heap.get? b = some (tup3 q u1 u2 u3)) (hu : A.units < cLine) : ∃ e, (e = true ↔ r = q) ∧ SeqAt.EqAt A s (.ref a) (.ref b) e := by
  by_cases hab : a = b
  · subst hab
    rw [ha] at hb
    refine ⟨true, ⟨fun _ => ?_, fun _ => rfl⟩, SeqAt.EqAt.same _⟩
    cases r; cases q
    simp at hb
    simp [hb]
  · refine ⟨_, ?_, SeqAt.EqAt.of_refs hab (SeqAt.RcAt.tuples (A := A) (s := s) (l := a) (b := b) (items := #[.str r.w t1, .str r.l t2, .int r.p t3]) (items2 := #[.str q.w u1, .str q.l u2, .int q.p u3])
      (e := fun j => match j with | 0 => r.w == q.w | 1 => r.l == q.l | _ => r.p == q.p) ⟨_, ha, rfl, 0, rfl⟩ ⟨_, hb, rfl, 0, rfl⟩ hu (by
        intro j h1 h2
        match j, h1, h2 with
        | 0, _, _ => exact SeqAt.EqAt.str_str _ _ _ _
        | 1, _, _ => exact SeqAt.EqAt.str_str _ _ _ _
        | 2, _, _ => exact SeqAt.EqAt.int_int _ _ _ _
        | j + 3, h, _ => exact absurd h (by simp)))⟩
    show ((r.w == q.w) && ((r.l == q.l) && ((r.p == q.p) && true)) && true) = true ↔ _
    simp only [Bool.and_true, Bool.and_eq_true, beq_iff_eq]
    cases r; cases q
    simp only [Row.mk.injEq]
theorem keyLt_gone {a b x y : Addr} {g k : Int × Row} {ta tb t1 t2 t3 u1 u2 u3 : Tok} {Q : Bool → Shared → Prop} (ha : s.heap.get? a = some (tupO [.int g.1 ta, .ref x])) (hb : s.heap.get? b = some (tupO [.int k.1 tb, .ref y]))
    (hx : s.heap.get? x = some (tup3 g.2 t1 t2 t3)) (hy : s.heap.get? y = some (tup3 k.2 u1 u2 u3)) (hu : A.units < cLine)
    (h : Q (gLt g k) s) : wpAny (model prog w) A (keyLt' (tuples' true) (.ref a) (.ref b)) Q E s := by
  refine kat_lt ha rfl hb rfl ?_
  show KatLex prog w A true (decide (2 < 2)) Q [(Value.int g.1 ta, Value.int k.1 tb), (Value.ref x, Value.ref y)] 0 s
  refine kat_cons (SeqAt.EqAt.int_int g.1 ta k.1 tb _ _ _ _ ?_)
  by_cases hw : g.1 = k.1
  · rw [show (g.1 == k.1) = true by simpa using hw]
    obtain ⟨e, hE, hEq⟩ := eq_row hx hy hu
    refine kat_yes (kat_cons (hEq _ _ _ _ ?_))
    have hr : gLt g k = rowLt g.2 k.2 := by simp [gLt, hw]
    by_cases he : g.2 = k.2
    · rw [hE.mpr he]
      refine kat_yes (kat_nil ?_)
      rw [hr, he, rl_irrefl] at h
      exact h
    · rw [Bool.eq_false_iff.mpr fun h => he (hE.mp h)]
      refine kat_no (kat_one _ _ (lt_row hx hy hu ?_))
      show Q _ s
      rw [← hr]
      exact h
  · rw [show (g.1 == k.1) = false by simpa using hw]
    have hr : gLt g k = decide (g.1 < k.1) := by simp [gLt, hw]
    refine kat_no (oneLt_int ?_)
    rw [← hr]
    exact h
noncomputable def gone0 : Int × Row := (0, row0)
theorem GoneIn.get {nw : List (Addr × Obj)} {vs : List Value} {gone : List (Int × Row)} (h : GoneIn nw vs gone) {i : Nat} (hi : i < gone.length) :
    ∃ a ta b t1 t2 t3, vs[i]? = some (.ref a) ∧ (a, tupO [.int (gone.getD i gone0).1 ta, .ref b]) ∈ nw ∧ (b, tup3 (gone.getD i gone0).2 t1 t2 t3) ∈ nw := by
  have hv : i < vs.length := by rw [h.1]; exact hi
  obtain ⟨a, ta, b, t1, t2, t3, e, hm, hm2⟩ := h.2 i _ _ (List.getElem?_eq_getElem hv) (List.getElem?_eq_getElem hi)
  have e2 : gone.getD i gone0 = gone[i] := by simp [List.getD, hi]
  refine ⟨a, ta, b, t1, t2, t3, by rw [List.getElem?_eq_getElem hv, e], ?_, ?_⟩
  · rw [e2]; exact hm
  · rw [e2]; exact hm2
theorem gone_firsts {h : Heap} {nw : List (Addr × Obj)} (hg : ∀ q ∈ nw, h.get? q.1 = some q.2) : ∀ {vs : List Value} {gone : List (Int × Row)}, GoneIn nw vs gone → ∃ fs, KatTups h vs fs ∧ fs.length = vs.length ∧ ∀ f ∈ fs, ∃ x t, f = Value.int x t
  | [], rows, hr => ⟨[], trivial, rfl, fun _ hf => nomatch hf⟩
  | v :: vs, rows, hr => by
    cases rows with
    | nil => exact absurd hr.1 (by simp)
    | cons r rows =>
      obtain ⟨a, ta, b, t1, t2, t3, rfl, hm, _⟩ := hr.2 0 v r rfl rfl
      have hr2 : GoneIn nw vs rows := ⟨by simpa using hr.1, fun i v' r' h1 h2 => hr.2 (i + 1) v' r' (by simpa using h1) (by simpa using h2)⟩
      obtain ⟨fs, k1, k2, k3⟩ := gone_firsts hg hr2
      refine ⟨.int r.1 ta :: fs, KatTups.cons (hg _ hm) rfl rfl rfl k1, by simp [k2], fun f hf => ?_⟩
      rcases List.mem_cons.mp hf with rfl | hf
      · exact ⟨_, _, rfl⟩
      · exact k3 f hf
theorem GoneIn.perm {nw : List (Addr × Obj)} {vs : List Value} {rows : List (Int × Row)} (hr : GoneIn nw vs rows) {p : Array Nat} (o : Ok rows.length p) :
    GoneIn nw (p.toList.map fun i => vs.getD i Value.none) (p.toList.map fun i => rows.getD i gone0) := by
  refine ⟨by simp, fun i v r h1 h2 => ?_⟩
  rw [List.getElem?_map] at h1 h2
  cases e : p.toList[i]? with
  | none => rw [e] at h1; cases h1
  | some k =>
    rw [e] at h1 h2
    simp only [Option.map_some, Option.some.injEq] at h1 h2
    subst h1 h2
    have hk : k < rows.length := by
      have : k ∈ p.toList := List.mem_of_getElem? e
      simpa using o.perm.subset this
    obtain ⟨a, ta, b, t1, t2, t3, hv, hm, hm2⟩ := hr.get hk
    refine ⟨a, ta, b, t1, t2, t3, ?_, hm, hm2⟩
    rw [List.getD_eq_getElem?_getD, hv]
    rfl
theorem gLt_trans {a b c : Int × Row} (h1 : gLt a b = true) (h2 : gLt b c = true) : gLt a c = true := by
  unfold gLt at *
  by_cases e1 : a.1 = b.1
  · rw [if_pos e1] at h1
    by_cases e2 : b.1 = c.1
    · rw [if_pos e2] at h2
      rw [if_pos (e1.trans e2)]
      exact rl_trans h1 h2
    · rw [if_neg e2] at h2
      rw [if_neg (by rw [e1]; exact e2), e1]
      exact h2
  · rw [if_neg e1] at h1
    by_cases e2 : b.1 = c.1
    · rw [if_neg (by rw [← e2]; exact e1), ← e2]
      exact h1
    · rw [if_neg e2] at h2
      simp only [decide_eq_true_eq] at h1 h2
      rw [if_neg (by (first | lia | omega))]
      simp only [decide_eq_true_eq]
      (first | lia | omega)
theorem gLt_irrefl (a : Int × Row) : gLt a a = false := gLe.refl a
theorem gLt_asymm {a b : Int × Row} (h1 : gLt a b = true) : gLt b a = false := by
  cases h : gLt b a with
  | false => rfl
  | true => have := gLt_trans h1 h; rw [gLt_irrefl] at this; cases this
theorem gone_ordr {rows : List (Int × Row)} (h0 : 0 < rows.length) (hnd : rows.Nodup) : Ordr (fun i j => gLt (rows.getD i gone0) (rows.getD j gone0)) rows.length where
  pos := h0
  tr := fun _ _ _ h1 h2 => gLt_trans h1 h2
  asym := fun _ _ h => gLt_asymm h
  tot := fun a b ha hb hne h => by
    cases h2 : gLt (rows.getD b gone0) (rows.getD a gone0) with
    | true => rfl
    | false =>
      have e : rows.getD a gone0 = rows.getD b gone0 := gLe.antisymm h2 h
      have ea : rows.getD a gone0 = rows[a] := by simp [List.getD_eq_getElem?_getD, ha]
      have eb : rows.getD b gone0 = rows[b] := by simp [List.getD_eq_getElem?_getD, hb]
      rw [ea, eb] at e
      rcases Nat.lt_or_gt_of_ne hne with hlt | hlt
      · exact absurd e (List.pairwise_iff_getElem.mp hnd a b ha hb hlt)
      · exact absurd e.symm (List.pairwise_iff_getElem.mp hnd b a hb ha hlt)
theorem sorted_gone {h₀ : Heap} {L D : Addr} {m : Str → Option Value} {news nw : List (Addr × Obj)} {vs : List Value} {rows : List (Int × Row)} {n : Nat} {Q : Value → Shared → Prop}
    (F : Fr h₀ L s.heap m) (N : News h₀ L s.heap news) (hD : (D, listOf vs.toArray n) ∈ news) (hnw : ∀ q ∈ nw, q ∈ news) (hr : GoneIn nw vs rows) (h2 : 2 ≤ rows.length) (h64 : rows.length < 64) (hnd : rows.Nodup) (hu : A.units + 2 < cLine)
    (h : ∀ D' c h' vs' rows', Fr h₀ L h' m → News h₀ L h' ((D', listOf vs'.toArray c) :: news) → (∀ q ∈ news, q.1 < D') → GoneIn nw vs' rows' → rows'.Perm rows → rows'.Pairwise gLe → Q (.ref D') { s with heap := h' }) :
    wpAny (model prog w) A (call (.builtin "sorted") [.ref D]) Q E s := by
  have hl : vs.length = rows.length := hr.1
  refine kat_sorted F N (PySem.IsL.isList (n := n) (N _ hD).1) (by (first | lia | omega)) (by (first | lia | omega)) fun D' e1 h' F' N' hlt => ?_
  have hg : ∀ q ∈ nw, h'.get? q.1 = some q.2 := fun q hq => (N' q (.tail _ (hnw q hq))).1
  obtain ⟨fs, k1, k2, k3⟩ := gone_firsts hg hr
  refine kat_kind (s := { s with heap := h' }) k1 (by (first | lia | omega)) (T := .type "int") (fun f hf => ?_) (by decide) ?_
  · obtain ⟨x, t, rfl⟩ := k3 f hf
    exact Looks.of_pure rfl
  · rw [show (Value.type "int" != Value.type "tuple") = true by decide, hl]
    refine pw_run (c := fun i j => gLt (rows.getD i gone0) (rows.getD j gone0)) (N := rows.length) (P := fun q => Ok rows.length q ∧ Asc (fun i j => gLt (rows.getD i gone0) (rows.getD j gone0)) q rows.length) ?_ ?_ _ (sort_pw (gone_ordr (by (first | lia | omega)) hnd))
    · intro i j C hi hj hC
      obtain ⟨a, ta, x, t1, t2, t3, hv, hm, hm2⟩ := hr.get hi
      obtain ⟨b, tb, y, u1, u2, u3, hv', hm', hm2'⟩ := hr.get hj
      unfold kas_ask
      rw [List.getD_eq_getElem?_getD, List.getD_eq_getElem?_getD, hv, hv']
      exact keyLt_gone (s := { s with heap := h' }) (hg _ hm) (hg _ hm') (hg _ hm2) (hg _ hm2') hu hC
    · rintro p ⟨o, hA⟩
      refine KasFin.intro F' N' (UpdF.head fun q hq => Nat.ne_of_lt (hlt q hq)) fun h3 c F3 N3 => ?_
      refine h D' c h3 _ (p.toList.map fun i => rows.getD i gone0) F3 N3 hlt (hr.perm o) (ok_perm o) ?_
      rw [List.pairwise_map]
      exact (asc_pairwise o hA).imp fun hab => gLt_asymm hab
/-- the two lists are equal -/
theorem eq_gone {h₀ : Heap} {L D D' : Addr} {news nw nw' : List (Addr × Obj)} {vs vs' : List Value} {gone : List (Int × Row)} {n n' : Nat} {Q : Value → Shared → Prop} (N : News h₀ L s.heap news) (hD : (D, listOf vs.toArray n) ∈ news) (hD' : (D', listOf vs'.toArray n') ∈ news)
    (hnw : ∀ q ∈ nw, q ∈ news) (hnw' : ∀ q ∈ nw', q ∈ news) (hr : GoneIn nw vs gone) (hr' : GoneIn nw' vs' gone) (hu : A.units + 3 < cLine) (h : Q (.bool true) s) :
    wpAny (model prog w) A (compareOp .Eq (.ref D) (.ref D')) Q E s := by
  have hl : vs.length = gone.length := hr.1
  have hl' : vs'.length = gone.length := hr'.1
  refine SeqAt.eq_listAt (items := vs.toArray) (items2 := vs'.toArray) (e := fun _ => true) (PySem.IsL.isList (n := n) (N _ hD).1) (PySem.IsL.isList (n := n') (N _ hD').1) (by simp [hl, hl']) (by (first | lia | omega)) ?_ ?_
  · intro j h1 h2
    have hj : j < gone.length := by rw [← hl]; simpa using h1
    obtain ⟨a, ta, x, t1, t2, t3, hv, hm, hm2⟩ := hr.get hj
    obtain ⟨b, tb, y, u1, u2, u3, hv', hm', hm2'⟩ := hr'.get hj
    have e1 : vs.toArray[j] = .ref a := by
      have : vs[j]'(by simpa using h1) = .ref a := by
        rw [List.getElem?_eq_getElem (by simpa using h1)] at hv
        exact Option.some.inj hv
      simpa using this
    have e2 : vs'.toArray[j] = .ref b := by
      have : vs'[j]'(by simpa using h2) = .ref b := by
        rw [List.getElem?_eq_getElem (by simpa using h2)] at hv'
        exact Option.some.inj hv'
      simpa using this
    rw [e1, e2]
    have ga := (N _ (hnw _ hm)).1
    have gb := (N _ (hnw' _ hm')).1
    have gx := (N _ (hnw _ hm2)).1
    have gy := (N _ (hnw' _ hm2')).1
    by_cases hab : a = b
    · subst hab
      exact SeqAt.EqAt.same _
    · refine SeqAt.EqAt.of_refs hab ?_
      have h1 := SeqAt.RcAt.tuples (A := A.in1) (s := s) (l := a) (b := b) (items := #[.int (gone.getD j gone0).1 ta, .ref x]) (items2 := #[.int (gone.getD j gone0).1 tb, .ref y])
        (e := fun _ => true) ⟨_, ga, rfl, 0, rfl⟩ ⟨_, gb, rfl, 0, rfl⟩ (by show A.units + 1 < cLine; (first | lia | omega)) (by
          intro i h1 h2
          match i, h1, h2 with
          | 0, _, _ =>
            have := SeqAt.EqAt.int_int (A := A.in1.in1) (s := s) (gone.getD j gone0).1 ta (gone.getD j gone0).1 tb
            rw [beq_self_eq_true] at this
            exact this
          | 1, _, _ =>
            obtain ⟨e, hE, hEq⟩ := eq_row (A := A.in1.in1) gx gy (by show A.units + 1 + 1 < cLine; (first | lia | omega))
            rw [hE.mpr rfl] at hEq
            exact hEq
          | i + 2, h, _ => exact absurd h (by simp))
      exact h1
  · have : (List.range vs.toArray.size).all (fun _ => true) = true := by simp
    rw [this]
    exact h
end
end HZx
section HFx
set_option maxRecDepth 100000
set_option maxHeartbeats 4000000
/-! loops: a pair's target, an else, a ledger that grows -/
section
variable {prog : Program} {w : World} {A : Around} {E : Value → Shared → Prop} {s : Shared}
theorem nextOf_tuple_item {it t : Addr} {i : Nat} {items : Array Value} {x : Value} {Q : Value → Shared → Prop} (hit : s.heap.IsTupleIter it t i)
    (ht : s.heap.IsTuple t items) (hx : items[i]? = some x)
    (hQ : ∀ h', h'.IsTupleIter it t (i + 1) → Heap.SameBut it s.heap h' → Q x { s with heap := h' }) :
    wpAny (model prog w) A (Builtin.SmallTypes.nextOf (.ref it)) Q E s := by
  obtain ⟨o, ho, hc, hd⟩ := id hit
  obtain ⟨ol, hol, _, nl, hdl⟩ := ht
  unfold Builtin.SmallTypes.nextOf
  refine wpAny_bind (wpAny_callSpecial?_slot (name := Str.ofString "__next__") hit.typeIs F.slot_tuple_iterator_next
    (wpAny_call_entry F.slot_tuple_iterator_next hit.typeIs F.entry_tuple_iterator_next ?_ (F.args_tuple_iterator_next_1 _)))
  show wpAny _ _ (field (.ref it) 0 >>= _) _ _ s
  refine wpAny_bind (wpAny_field ho hd (x := .ref t) rfl ?_)
  show wpAny _ _ (if (Value.ref t == Value.none) = true then _ else _) _ _ s
  rw [if_neg (show ¬ ((Value.ref t == Value.none) = true) from Bool.false_ne_true)]
  show wpAny _ _ (field (.ref it) 1 >>= _) _ _ s
  refine wpAny_bind (wpAny_field ho hd (x := .int i 0) rfl ?_)
  show wpAny _ _ (seqItems? (.ref t) >>= _) _ _ s
  refine wpAny_bind (wpAny_seqItems hol hdl ?_)
  simp only [Int.toNat_natCast, hx]
  refine wpAny_bind (wpAny_setField ho hd (by simp) (wpAny_pure ⟨x, rfl, wpAny_pure (hQ _ ?_ (Heap.SameBut.update ..))⟩))
  exact ⟨_, Heap.get?_update_self _ ho (Obj.isFreed_of_fields (Obj.data_mapFields hd _)), (Obj.cls_mapFields ..).trans hc, by
    rw [Obj.data_mapFields hd]; simp [rawInt]⟩
theorem nextOf_tuple_end {it t : Addr} {i : Nat} {items : Array Value} {Q : Value → Shared → Prop} (hh : A.handled = none)
    (hit : s.heap.IsTupleIter it t i) (ht : s.heap.IsTuple t items) (hx : items[i]? = none)
    (hE : ∀ h' e, Heap.ExtBut it s.heap h' → (∃ o, h'.get? e = some o ∧ o.cls = .type "StopIteration") → E (.ref e) { s with heap := h' }) :
    wpAny (model prog w) A (Builtin.SmallTypes.nextOf (.ref it)) Q E s := by
  obtain ⟨o, ho, hc, hd⟩ := id hit
  obtain ⟨ol, hol, _, nl, hdl⟩ := ht
  unfold Builtin.SmallTypes.nextOf
  refine wpAny_bind (wpAny_callSpecial?_slot (name := Str.ofString "__next__") hit.typeIs F.slot_tuple_iterator_next
    (wpAny_call_entry F.slot_tuple_iterator_next hit.typeIs F.entry_tuple_iterator_next ?_ (F.args_tuple_iterator_next_1 _)))
  show wpAny _ _ (field (.ref it) 0 >>= _) _ _ s
  refine wpAny_bind (wpAny_field ho hd (x := .ref t) rfl ?_)
  show wpAny _ _ (if (Value.ref t == Value.none) = true then _ else _) _ _ s
  rw [if_neg (show ¬ ((Value.ref t == Value.none) = true) from Bool.false_ne_true)]
  show wpAny _ _ (field (.ref it) 1 >>= _) _ _ s
  refine wpAny_bind (wpAny_field ho hd (x := .int i 0) rfl ?_)
  show wpAny _ _ (seqItems? (.ref t) >>= _) _ _ s
  refine wpAny_bind (wpAny_seqItems hol hdl ?_)
  simp only [Int.toNat_natCast, hx]
  refine wpAny_bind (wpAny_rule (wpAny_bind (wpAny_setField ho hd (by simp) ?_)))
  show wpAny _ _ (newExc (.type "StopIteration") [] >>= _) _ _ _
  refine wpAny_bind ?_
  simp only [newExc, newTuple]
  refine wpAny_bind (wpAny_newObj_type ?_ (by size_fits))
  refine wpAny_bind (m := firstArgMember _ _) (wpAny_of_eq (a := Value.none) (by first | rfl | (simp only [firstArgMember]; rfl)) ?_)
  refine wpAny_newObj_type ?_ (by size_fits)
  simp only [raiseNew]
  refine wpAny_bind (wpAny_handled ?_)
  first | rw [show A.in1.handled = none from hh] | rw [hh]
  refine wpAny_bind (wpAny_pure (wpAny_throw ?_))
  exact hE _ _ (((Heap.SameBut.update ..).extBut.push _).push _) ⟨_, Heap.get?_push_size _ rfl, rfl⟩
theorem draws_tuple (hh : A.handled = none) (it t : Addr) (hne : t ≠ it) (items : Array Value) :
    Draws prog w A it [it, t] items.size (fun i v => items[i]? = some v) (fun i h => h.IsTupleIter it t i ∧ h.IsTuple t items) where
  live := fun _ _ st => let ⟨o, ho, _⟩ := st.1; ⟨o, ho⟩
  frame := fun _ _ _ st hk => by
    obtain ⟨⟨o, ho, r⟩, ⟨o2, ho2, r2⟩⟩ := st
    exact ⟨⟨o, hk it (by simp) o ho, r⟩, ⟨o2, hk t (by simp) o2 ho2, r2⟩⟩
  item := fun i s Q E hi st hQ => by
    refine nextOf_tuple_item st.1 st.2 (x := items[i]) (by simp [hi]) fun h' hit' hs' => ?_
    exact hQ _ h' s.toks (by simp [hi]) ⟨hit', st.2.extBut hs'.extBut hne⟩ hs'
  done := fun s Q E st hE => nextOf_tuple_end hh st.1 st.2 (by simp) hE
open AutoSeq1 (wpAny_loadPart') in
theorem meets_enumerate_newT (l : Addr) (items : Array Value) (n : Nat) (dct : Option Addr) (sl : Array (Option Value)) :
    Meets (Builtin.«enumerate.__new__» ⟨[.type "enumerate", .ref l], []⟩) (fun _ R s => s.heap.get? l = some { cls := .type "tuple", dict := dct, data := .seq items n, slots := sl } ∧
      R (.ok (.ret (.ref (s.heap.push { cls := .type "tuple_iterator", data := .fields #[.ref l, .int 0 0] }).objs.size)))
        { s with heap := (s.heap.push { cls := .type "tuple_iterator", data := .fields #[.ref l, .int 0 0] }).push { cls := .type "enumerate", data := .fields #[.none, .bool false, .ref s.heap.objs.size, rawInt 0, .none, .none] } }) :=
  .of_wp fun prog w A R s h => by
    obtain ⟨hp, g, d, tk, os⟩ := s; obtain ⟨hl, h⟩ := h
    have hsub := sub_enumerate
    have hL : Heap.IsTuple (Shared.heap ⟨hp, g, d, tk, os⟩) l items := ⟨_, hl, rfl, n, rfl⟩
    wp_walk using wpAny_loadPart' hl
    refine wpAny_stack_any fun st => wpAny_pure ?_
    split
    · rename_i c _ _ _ _ _
      cases (c == Value.type "enumerate")
      · wp_walk using wpAny_loadPart' hl, wpAny_pyIter_tuple hL
        exact ⟨_, rfl, h⟩
      · wp_walk using wpAny_loadPart' hl, wpAny_pyIter_tuple hL
        exact ⟨_, rfl, h⟩
    · wp_walk using wpAny_loadPart' hl, wpAny_pyIter_tuple hL
      exact ⟨_, rfl, h⟩
theorem call_enumerate_tuple {l : Addr} {items : Array Value} {Q : Value → Shared → Prop} (hL : s.heap.IsTuple l items)
    (h : ∀ h', IsEnum h' (s.heap.objs.size + 1) s.heap.objs.size 0 .none → h'.IsTupleIter s.heap.objs.size l 0 → h'.objs.size = s.heap.objs.size + 2 →
      (∀ b o, s.heap.get? b = some o → h'.get? b = some o) → Q (.ref (s.heap.objs.size + 1)) { s with heap := h' }) :
    wpAny (model prog w) A (call (.type "enumerate") [.ref l]) Q E s := by
  obtain ⟨⟨c, dct, dt, sl⟩, hl, hc, n, hd⟩ := hL
  replace hc : c = .type "tuple" := hc
  replace hd : dt = .seq items n := hd
  subst hc hd
  refine callType_new F.called_enumerate (by decide) (F.typeCall_enumerate_1 _) (F.newCall_enumerate_1 _) (fun obj => F.args_object_init_2 obj _) F.entry_enumerate_new
    (meets_enumerate_newT l items n dct sl) ⟨hl, ?_⟩
  have hz : (s.heap.push { cls := .type "tuple_iterator", data := .fields #[.ref l, .int 0 0] }).objs.size = s.heap.objs.size + 1 := Heap.size_push ..
  show _ ∧ _
  rw [hz]
  have he : IsEnum ((s.heap.push { cls := .type "tuple_iterator", data := .fields #[.ref l, .int 0 0] }).push
      { cls := .type "enumerate", data := .fields #[.none, .bool false, .ref s.heap.objs.size, rawInt 0, .none, .none] }) (s.heap.objs.size + 1) s.heap.objs.size 0 .none := by
    have := Heap.get?_push_size (s.heap.push { cls := .type "tuple_iterator", data := .fields #[.ref l, .int 0 0] })
      (o := { cls := .type "enumerate", data := .fields #[.none, .bool false, .ref s.heap.objs.size, rawInt 0, .none, .none] }) rfl
    rw [hz] at this; exact this
  refine ⟨⟨_, he, rfl⟩, h _ he ⟨_, Heap.get?_push_of_some _ (Heap.get?_push_size _ rfl), rfl, rfl⟩ (by rw [Heap.size_push, hz]) fun b o x => Heap.get?_push_of_some _ (Heap.get?_push_of_some _ x)⟩
end
section
variable {prog : Program} {w : World} {A : Around} {s : Shared} {env : Env} {h₀ : Heap}
/-- a for with the target (xi, xc) over an enumerate: wr its own objects, k the one it reads -/
theorem forT {E : Value → Shared → Prop} {Q : Flow → Shared → Prop} {xi xc : Str} {pk pv pt : Pos} {x1 : Nat} {body orelse : List Stmt} {I k : Addr} {wr : List Addr} {n : Nat} {Pt : Nat → Array Value → Prop} {St : Nat → Heap → Prop} {Mid : Nat → Addr → Heap → Prop}
    {P2 : Nat → Value → Value → Prop} {m : Str → Option Value} {news : List (Addr × Obj)} {fp : List Addr} {ok : Obj} (J : Nat → (Str → Option Value) → List (Addr × Obj) → Prop)
    (hh : A.handled = none) (W : WalksT prog w A I fp wr n Pt St Mid) (hfp : ∀ b ∈ fp, b ∈ wr ∨ b = k) (hob : ∀ i h, St i h → ∀ b ∈ wr, ∃ o, h.get? b = some o) (hkw : k ∉ wr)
    (h2 : ∀ i vals, Pt i vals → ∃ v0 v1, vals = #[v0, v1] ∧ P2 i v0 v1)
    (hxi : env.kindOf xi = some .local) (hxc : env.kindOf xc = some .local)
    (hp : (env.scope.kind == .class || (env.scope.kind == .module && env.locals != env.globals)) = false)
    (hLf : env.locals ∉ wr) (hLk : env.locals ≠ k) (hwr : ∀ b ∈ wr, h₀.get? b = none) (hnw : ∀ p ∈ news, p.1 ∉ wr) (hkeep : h₀.get? k = some ok ∨ ∀ i m nx, J i m nx → (k, ok) ∈ nx)
    (hst : St 0 s.heap) (F : Fr h₀ env.locals s.heap m) (N : News h₀ env.locals s.heap news) (hj : J 0 m news)
    (turn : ∀ i v0 v1 m₁ nx h tk own, i < n → P2 i v0 v1 → OwnOff own (nx.map (·.1)) → J i m₁ nx → Fr h₀ env.locals h (fun y => if y = xc then some v1 else if y = xi then some v0 else m₁ y) → News h₀ env.locals h (nx ++ own) →
      wpAny (model prog w) A (execs body env) (InvPostG h₀ env.locals (J (i + 1)) own { s with heap := h, toks := tk } Q) E { s with heap := h, toks := tk })
    (done : ∀ m₁ nx h tk, J n m₁ nx → Fr h₀ env.locals h m₁ → News h₀ env.locals h nx → wpAny (model prog w) A (execs orelse env) Q E { s with heap := h, toks := tk })
    (hE : PassesOwn (model prog w) A env E := by passes_own) :
    codeAny (model prog w) A (.forLoop (.Tuple [.Name xi pk, .Name xc pv] x1 pt) (.ref I) body orelse env) (fun r s' => match r with | .ok f => Q f s' | .error e => cameBackBy (model prog w) A env E e s') s := by
  have hLw : env.locals ∉ fp := fun h => (hfp _ h).elim hLf hLk
  have old : ∀ b o, h₀.get? b = some o → b ∉ wr := fun b o e hb => by rw [hwr b hb] at e; cases e
  refine codeAny_forLoop_any
    (fun c s' => ∃ h' tk m' nx i, s' = { s with heap := h', toks := tk } ∧ St i h' ∧ Fr h₀ env.locals h' m' ∧ News h₀ env.locals h' nx ∧ (∀ p ∈ nx, p.1 ∉ wr) ∧ J i m' nx ∧ i ≤ n ∧ c = n + 1 - i) ?_ (n + 1)
    ⟨s.heap, s.toks, m, news, 0, rfl, hst, F, N, hnw, hj, Nat.zero_le _, rfl⟩
  rintro c s' ⟨H, tk, m', nx, i, rfl, hst', F', N', hnx, hJ, hi, rfl⟩
  have next : ∀ h₁ : Heap, (∀ b o, b ∉ wr → H.get? b = some o → h₁.get? b = some o) → Fr h₀ env.locals h₁ m' ∧ News h₀ env.locals h₁ nx := fun h₁ hk₁ =>
    ⟨⟨F'.ns.at' fun o e => hk₁ _ o hLf e, fun b o e => hk₁ b o (old b o e) (F'.keep b o e), F'.above⟩, fun p hp => ⟨hk₁ _ _ (hnx p hp) (N' p hp).1, (N' p hp).2⟩⟩
  by_cases hlt : i < n
  · refine W.item i _ _ _ hlt hst' fun T vals h₁ tk₁ hPt _ hT hMid hk₁ => ?_
    obtain ⟨v0, v1, rfl, hP2⟩ := h2 i vals hPt
    refine W.go _ x1 pt i T _ _ _ hMid fun h₂ hst₂ hk₂ => ?_
    have ht₂ : h₂.IsTuple T #[v0, v1] := hT.at fun o e => hk₂ T o (W.apart i T h₁ hMid) e
    refine wpAny_assign_Tuple hh ht₂ rfl rfl fun h₃ hx₃ => ?_
    replace hx₃ : Heap.ExtBut h₂.objs.size h₂ h₃ := hx₃
    have up₃ : ∀ b o, h₂.get? b = some o → h₃.get? b = some o := fun b o x => hx₃ b o (Nat.ne_of_lt (Heap.lt_size x)) x
    obtain ⟨F₃, N₃⟩ := next h₃ fun b o hb x => up₃ b o (hk₂ b o hb (hk₁ b o hb x))
    show wpAny _ A (do holding [v1] (assign (.Name xi pk) env v0); do holding [] (assign (.Name xc pv) env v1); pure ()) _ _ _
    refine wpAny_bind (wpAny_holding (wpAny_assign_Name (wpAny_storeName_local hxi F₃.ns (fun h₄ hn₄ hs₄ => ?_) hp)))
    replace hs₄ : Heap.SameBut env.locals h₃ h₄ := hs₄
    have F₄ := F₃.set hn₄ hs₄
    refine wpAny_bind (wpAny_holding (wpAny_assign_Name (wpAny_storeName_local hxc F₄.ns (fun h₅ hn₅ hs₅ => wpAny_pure ?_) hp)))
    replace hs₅ : Heap.SameBut env.locals h₄ h₅ := hs₅
    have F₅ := F₄.set hn₅ hs₅
    have N₅ : News h₀ env.locals h₅ nx := (N₃.set hs₄).set hs₅
    have hst₅ : St (i + 1) h₅ := W.frame _ _ _ hst₂ fun b hb o e => hs₅.extBut b o (fun q => hLw (q ▸ hb)) (hs₄.extBut b o (fun q => hLw (q ▸ hb)) (up₃ b o e))
    have hown : News h₀ env.locals h₅ (ownOf h₀ wr h₅) := news_ownOf hLf
    have hsep : OwnOff (ownOf h₀ wr h₅) (nx.map (·.1)) := by
      intro p hp b hb e
      obtain ⟨q, hq, rfl⟩ := List.mem_map.mp hb
      exact hnx q hq (e ▸ ownOf_sub p hp)
    have N₆ : News h₀ env.locals h₅ (nx ++ ownOf h₀ wr h₅) := fun p hp => (List.mem_append.mp hp).elim (N₅ p) (hown p)
    refine wpAny_passesOwn hE (wpAny_mono (turn i v0 v1 m' nx h₅ _ _ hlt hP2 hsep hJ F₅ N₆) (fun f s₃ h₆ => ?_) fun _ _ e => e)
    have fin : ∀ hx tx, InvEndG h₀ env.locals (J (i + 1)) (ownOf h₀ wr h₅) { s with heap := hx, toks := tx } s₃ → ∃ c, c < n + 1 - i ∧ ∃ h' tk m' nx i, s₃ = { s with heap := h', toks := tk } ∧ St i h' ∧ Fr h₀ env.locals h' m' ∧ News h₀ env.locals h' nx ∧ (∀ p ∈ nx, p.1 ∉ wr) ∧ J i m' nx ∧ i ≤ n ∧ c = n + 1 - i := by
      rintro hx tx ⟨h', tk', m₂, news', nx', rfl, F₇, N₇, hn, ho, ha, hJ₇⟩
      refine ⟨n + 1 - (i + 1), by (first | lia | omega), h', tk', m₂, nx', i + 1, rfl, ?_, F₇, fun p hp => N₇ p (hn p hp), fun p hp hq => ?_, hJ₇, hlt, rfl⟩
      · refine W.frame _ _ _ hst₅ fun b hb o e => ?_
        rcases hfp b hb with hb | rfl
        · exact (N₇ _ (ho _ (mem_ownOf hb (hwr b hb) e))).1
        · rcases hkeep with hk | hk
          · have q := F₅.keep _ _ hk
            rw [e] at q
            rw [Option.some.inj q]
            exact F₇.keep _ _ hk
          · have q := (N₅ _ (hk i m' nx hJ)).1
            rw [show h₅.get? b = some o from e] at q
            rw [Option.some.inj q]
            exact (N₇ _ (hn _ (hk _ _ _ hJ₇))).1
      · obtain ⟨o, hbo⟩ := hob _ _ hst₅ _ hq
        exact ha _ (mem_ownOf hq (hwr _ hq) hbo) p.1 (List.mem_map.mpr ⟨p, hp, rfl⟩) rfl
    cases f with
    | ret v => exact h₆
    | brk => exact h₆
    | cont => exact fin _ _ h₆
    | next => exact fin _ _ h₆
  · have hin : i = n := by (first | lia | omega)
    subst hin
    refine W.done _ _ _ hst' fun h₁ tk₁ hk₁ => ?_
    obtain ⟨F₁, N₁⟩ := next h₁ hk₁
    exact wpAny_passesOwn hE (done m' nx h₁ tk₁ hJ F₁ N₁)
/-- a for with any target over a walk; wr its own objects, k the one it reads -/
theorem forG {E : Value → Shared → Prop} {Q : Flow → Shared → Prop} {target : Expr} {body orelse : List Stmt} {I k : Addr} {wr fp : List Addr} {n : Nat} {P : Nat → Value → Prop} {St : Nat → Heap → Prop}
    {m : Str → Option Value} {news : List (Addr × Obj)} {ok : Obj} (J : Nat → (Str → Option Value) → List (Addr × Obj) → Prop)
    (W : Walks prog w A I fp wr n P St) (hfp : ∀ b ∈ fp, b ∈ wr ∨ b = k) (hob : ∀ i h, St i h → ∀ b ∈ wr, ∃ o, h.get? b = some o)
    (hgo : ∀ i v (s : Shared) (Q : Unit → Shared → Prop), P i v → St (i + 1) s.heap → Q () s → wpAny (model prog w) A (letOwnedTupleGo target (.ref I) v) Q (notedBy (model prog w) A env (cameBackBy (model prog w) A env E)) s)
    (hLf : env.locals ∉ wr) (hwr : ∀ b ∈ wr, h₀.get? b = none) (hnw : ∀ p ∈ news, p.1 ∉ wr) (hkeep : h₀.get? k = some ok ∨ ∀ i m nx, J i m nx → (k, ok) ∈ nx)
    (hst : St 0 s.heap) (F : Fr h₀ env.locals s.heap m) (N : News h₀ env.locals s.heap news) (hj : J 0 m news)
    (turn : ∀ i v m₁ nx h tk own, i < n → P i v → OwnOff own (nx.map (·.1)) → J i m₁ nx → Fr h₀ env.locals h m₁ → News h₀ env.locals h (nx ++ own) →
      wpAny (model prog w) A (assign target env v) (fun _ s₂ => wpAny (model prog w) A (execs body env) (InvPostG h₀ env.locals (J (i + 1)) own { s with heap := h, toks := tk } Q) E s₂) E { s with heap := h, toks := tk })
    (done : ∀ m₁ nx h tk, J n m₁ nx → Fr h₀ env.locals h m₁ → News h₀ env.locals h nx → wpAny (model prog w) A (execs orelse env) Q E { s with heap := h, toks := tk })
    (hE : PassesOwn (model prog w) A env E := by passes_own) :
    codeAny (model prog w) A (.forLoop target (.ref I) body orelse env) (fun r s' => match r with | .ok f => Q f s' | .error e => cameBackBy (model prog w) A env E e s') s := by
  have old : ∀ b o, h₀.get? b = some o → b ∉ wr := fun b o e hb => by rw [hwr b hb] at e; cases e
  refine codeAny_forLoop_any
    (fun c s' => ∃ h' tk m' nx i, s' = { s with heap := h', toks := tk } ∧ St i h' ∧ Fr h₀ env.locals h' m' ∧ News h₀ env.locals h' nx ∧ (∀ p ∈ nx, p.1 ∉ wr) ∧ J i m' nx ∧ i ≤ n ∧ c = n + 1 - i) ?_ (n + 1)
    ⟨s.heap, s.toks, m, news, 0, rfl, hst, F, N, hnw, hj, Nat.zero_le _, rfl⟩
  rintro c s' ⟨H, tk, m', nx, i, rfl, hst', F', N', hnx, hJ, hi, rfl⟩
  have next : ∀ h₁ : Heap, (∀ b o, b ∉ wr → H.get? b = some o → h₁.get? b = some o) → Fr h₀ env.locals h₁ m' ∧ News h₀ env.locals h₁ nx := fun h₁ hk₁ =>
    ⟨⟨F'.ns.at' fun o e => hk₁ _ o hLf e, fun b o e => hk₁ b o (old b o e) (F'.keep b o e), F'.above⟩, fun p hp => ⟨hk₁ _ _ (hnx p hp) (N' p hp).1, (N' p hp).2⟩⟩
  by_cases hlt : i < n
  · refine W.item i _ _ _ hlt hst' fun v h₁ tk₁ hP hst₁ hk₁ => ?_
    refine hgo i v _ _ hP hst₁ ?_
    obtain ⟨F₁, N₁⟩ := next h₁ hk₁
    have hown : News h₀ env.locals h₁ (ownOf h₀ wr h₁) := news_ownOf hLf
    have hsep : OwnOff (ownOf h₀ wr h₁) (nx.map (·.1)) := by
      intro p hp b hb e
      obtain ⟨q, hq, rfl⟩ := List.mem_map.mp hb
      exact hnx q hq (e ▸ ownOf_sub p hp)
    have N₆ : News h₀ env.locals h₁ (nx ++ ownOf h₀ wr h₁) := fun p hp => (List.mem_append.mp hp).elim (N₁ p) (hown p)
    refine wpAny_passesOwn hE (wpAny_mono (turn i v m' nx h₁ _ _ hlt hP hsep hJ F₁ N₆) (fun _ s₂ h₂ => wpAny_passesOwn hE (wpAny_mono h₂ (fun f s₃ h₆ => ?_) fun _ _ e => e)) fun _ _ e => e)
    have fin : ∀ hx tx, InvEndG h₀ env.locals (J (i + 1)) (ownOf h₀ wr h₁) { s with heap := hx, toks := tx } s₃ → ∃ c, c < n + 1 - i ∧ ∃ h' tk m' nx i, s₃ = { s with heap := h', toks := tk } ∧ St i h' ∧ Fr h₀ env.locals h' m' ∧ News h₀ env.locals h' nx ∧ (∀ p ∈ nx, p.1 ∉ wr) ∧ J i m' nx ∧ i ≤ n ∧ c = n + 1 - i := by
      rintro hx tx ⟨h', tk', m₂, news', nx', rfl, F₇, N₇, hn, ho, ha, hJ₇⟩
      refine ⟨n + 1 - (i + 1), by (first | lia | omega), h', tk', m₂, nx', i + 1, rfl, ?_, F₇, fun p hp => N₇ p (hn p hp), fun p hp hq => ?_, hJ₇, hlt, rfl⟩
      · refine W.frame _ _ _ hst₁ fun b hb o e => ?_
        rcases hfp b hb with hb | rfl
        · exact (N₇ _ (ho _ (mem_ownOf hb (hwr b hb) e))).1
        · rcases hkeep with hk | hk
          · have q := F₁.keep _ _ hk
            rw [e] at q
            rw [Option.some.inj q]
            exact F₇.keep _ _ hk
          · have q := (N₁ _ (hk i m' nx hJ)).1
            rw [show h₁.get? b = some o from e] at q
            rw [Option.some.inj q]
            exact (N₇ _ (hn _ (hk _ _ _ hJ₇))).1
      · obtain ⟨o, hbo⟩ := hob _ _ hst₁ _ hq
        exact ha _ (mem_ownOf hq (hwr _ hq) hbo) p.1 (List.mem_map.mpr ⟨p, hp, rfl⟩) rfl
    cases f with
    | ret v => exact h₆
    | brk => exact h₆
    | cont => exact fin _ _ h₆
    | next => exact fin _ _ h₆
  · have hin : i = n := by (first | lia | omega)
    subst hin
    refine W.done _ _ _ hst' fun h₁ tk₁ hk₁ => ?_
    obtain ⟨F₁, N₁⟩ := next h₁ hk₁
    exact wpAny_passesOwn hE (done m' nx h₁ tk₁ hJ F₁ N₁)
end
end HFx
section HVx
set_option maxRecDepth 100000
set_option maxHeartbeats 4000000
/-! floor division by written numbers -/
theorem fd1 (a : Int) : a.fdiv 1 = a / 1 := Int.fdiv_eq_ediv_of_nonneg _ (by decide)
theorem fd2 (a : Int) : a.fdiv 2 = a / 2 := Int.fdiv_eq_ediv_of_nonneg _ (by decide)
theorem fm2 (a : Int) : a.fmod 2 = a % 2 := Int.fmod_eq_emod_of_nonneg _ (by decide)
theorem fd4 (a : Int) : a.fdiv 4 = a / 4 := Int.fdiv_eq_ediv_of_nonneg _ (by decide)
theorem fm4 (a : Int) : a.fmod 4 = a % 4 := Int.fmod_eq_emod_of_nonneg _ (by decide)
theorem fd8 (a : Int) : a.fdiv 8 = a / 8 := Int.fdiv_eq_ediv_of_nonneg _ (by decide)
theorem fm8 (a : Int) : a.fmod 8 = a % 8 := Int.fmod_eq_emod_of_nonneg _ (by decide)
theorem fd16 (a : Int) : a.fdiv 16 = a / 16 := Int.fdiv_eq_ediv_of_nonneg _ (by decide)
theorem fm16 (a : Int) : a.fmod 16 = a % 16 := Int.fmod_eq_emod_of_nonneg _ (by decide)
theorem fd64 (a : Int) : a.fdiv 64 = a / 64 := Int.fdiv_eq_ediv_of_nonneg _ (by decide)
theorem fm64 (a : Int) : a.fmod 64 = a % 64 := Int.fmod_eq_emod_of_nonneg _ (by decide)
theorem fd256 (a : Int) : a.fdiv 256 = a / 256 := Int.fdiv_eq_ediv_of_nonneg _ (by decide)
theorem fm256 (a : Int) : a.fmod 256 = a % 256 := Int.fmod_eq_emod_of_nonneg _ (by decide)
theorem fd512 (a : Int) : a.fdiv 512 = a / 512 := Int.fdiv_eq_ediv_of_nonneg _ (by decide)
theorem fm512 (a : Int) : a.fmod 512 = a % 512 := Int.fmod_eq_emod_of_nonneg _ (by decide)
theorem fd1024 (a : Int) : a.fdiv 1024 = a / 1024 := Int.fdiv_eq_ediv_of_nonneg _ (by decide)
theorem fm1024 (a : Int) : a.fmod 1024 = a % 1024 := Int.fmod_eq_emod_of_nonneg _ (by decide)
theorem fd2048 (a : Int) : a.fdiv 2048 = a / 2048 := Int.fdiv_eq_ediv_of_nonneg _ (by decide)
theorem fm2048 (a : Int) : a.fmod 2048 = a % 2048 := Int.fmod_eq_emod_of_nonneg _ (by decide)
theorem fd4096 (a : Int) : a.fdiv 4096 = a / 4096 := Int.fdiv_eq_ediv_of_nonneg _ (by decide)
theorem fm4096 (a : Int) : a.fmod 4096 = a % 4096 := Int.fmod_eq_emod_of_nonneg _ (by decide)
theorem fd65536 (a : Int) : a.fdiv 65536 = a / 65536 := Int.fdiv_eq_ediv_of_nonneg _ (by decide)
theorem fm65536 (a : Int) : a.fmod 65536 = a % 65536 := Int.fmod_eq_emod_of_nonneg _ (by decide)
noncomputable def ch (c : Nat) : Str := ⟨#[c]⟩
noncomputable def cAt (x : Str) (k : Int) : Nat := x.cps.toList.getD k.toNat 0
section
variable {prog : Program} {w : World} {A : Around} {E : Value → Shared → Prop} {s : Shared}
theorem str_at {value slice : PySem.Expr} {x : Str} {t u : Tok} {k : Int} {Q : Value → Shared → Prop} {n : Nat} (hl : x.length = n) (h0 : 0 ≤ k) (h1 : k < (n : Int)) (hn : n < 1000) (h : Q (.str (ch (cAt x k)) s.toks) { s with toks := s.toks + 1 })
    (hs : subscripted slice false (.str x t) (.int k u) = operate [.str x t, .int k u] (getItem (.str x t) (.int k u)) := by with_unfolding_all rfl)
    (hg : ∀ r, letTemporaryGo value (.str x t) r = pure () := by intro _; with_unfolding_all rfl) :
    wpAny (model prog w) A (subscriptTail value slice (.str x t) (.int k u)) Q E s := by
  have hfit := fit63 h1 hn
  rw [← hl] at h1
  have e : Txt.item x k = ch (cAt x k) := by
    have hk : k.toNat < x.cps.size := by have : x.length = x.cps.size := rfl; (first | lia | omega)
    have h2 : ¬ k < 0 := by (first | lia | omega)
    unfold Txt.item ch cAt
    have e1 : seqIndex? k x.length = some k.toNat := by
      unfold seqIndex?
      have h3 : ¬ ((x.length : Int) ≤ k) := by (first | lia | omega)
      simp [h2, h1]
    have e2 : Txt.charAt x k = some (x.cps[k.toNat]) := by
      unfold Txt.charAt
      rw [e1]
      simp [hk]
    rw [e2]
    simp [List.getD_eq_getElem?_getD, hk]
  refine item_str ?_ (by (first | lia | omega)) h1 (fun _ => ?_) hs hg
  · unfold fitsSsize
    simp
    (first | lia | omega)
  · rw [e]
    exact h
theorem rng_loop {env : Env} {h₀ : Heap} {x : Str} {body : List Stmt} {Q : Flow → Shared → Prop} {r : Addr} {k : Nat} {t u v : Tok} {m₀ : Str → Option Value} {news : List (Addr × Obj)} (J : Nat → (Str → Option Value) → List (Addr × Obj) → Prop)
    (hh : A.handled = none) (hr : IsRange s.heap r 0 (k : Int) 1 t u v) (hk : k < 1000)
    (F : Fr h₀ env.locals s.heap m₀) (N : News h₀ env.locals s.heap news) (hj : J 0 m₀ news)
    (turn : ∀ i t m₁ nx h tk own, i < k → OwnOff own (nx.map (·.1)) → J i m₁ nx → Fr h₀ env.locals h (fun y => if y = x then some (.int (i : Int) t) else m₁ y) → News h₀ env.locals h (nx ++ own) →
      wpAny (model prog w) A (execs body env) (InvPostG h₀ env.locals (J (i + 1)) own { s with heap := h, toks := tk } Q) E { s with heap := h, toks := tk })
    (done : ∀ m₁ nx h tk, J k m₁ nx → Fr h₀ env.locals h m₁ → News h₀ env.locals h nx → Q .next { s with heap := h, toks := tk }) :
    wpAny (model prog w) A (pyIter (.ref r)) (fun it s₂ => LoopAtV prog w A h₀ env x body Q E it s₂) E s := by
  have es : Builtin.Range.rangeSize 0 (k : Int) 1 = (k : Int) := by
    unfold Builtin.Range.rangeSize
    simp only [show ((1 : Int) > 0) by decide, if_true, Int.ediv_one]
    split <;> (first | lia | omega)
  have hsm : Builtin.Range.small 0 (k : Int) 1 = true := small_one (by (first | lia | omega)) (by (first | lia | omega)) (by (first | lia | omega)) (by (first | lia | omega))
  refine wpAny_pyIter_range hr hsm ?_
  rw [es]
  refine kdr_loop J (Walks.range hh s.heap.objs.size 0 1 k) (fun _ h => h) (fun _ h => h) ?_ (by simpa using Nat.ne_of_lt F.ns.lt) (by simpa using next_is_new F) (by simpa using fun a b hp => Nat.ne_of_lt (Heap.lt_size (N (a, b) hp).1)) (by simpa using Heap.get?_push_size _ rfl) (F.push _) (fun p hp => ⟨Heap.get?_push_of_some _ (N p hp).1, (N p hp).2⟩) hj ?_ done
  · intro i h st b hb
    rw [List.mem_singleton.mp hb]
    exact ⟨_, st⟩
  · rintro i v m₁ nx h tk own hi ⟨t, rfl⟩ hoff hJ F₁ N₁
    have e : (0 : Int) + (i : Int) * 1 = (i : Int) := by (first | lia | omega)
    rw [e] at F₁
    exact turn i t m₁ nx h tk own hi hoff hJ F₁ N₁
end
theorem ch_len (c : Nat) : (ch c).length = 1 := rfl
theorem eq_len : (Str.ofString "=").length = 1 := by decide +kernel
theorem str_eq {o : Option Value} {x y : Str} {t : Tok} (h : o = some (.str x t)) (e : x = y) : ∃ t', o = some (.str y t') := ⟨t, by rw [h, e]⟩
noncomputable def alnum : Str := Str.ofString "ABCDEFGHIJKLMNOPQRSTUVWXYZabcdefghijklmnopqrstuvwxyz0123456789"
noncomputable def writtenS (alt : Str) (mode : Int) : Str := ch (cAt (alnum ++ alt) (mode / 1024)) ++ ch (cAt (alnum ++ alt) (mode / 16 % 64)) ++ ch (cAt (alnum ++ alt) (mode % 16 * 4)) ++ Str.ofString "="
noncomputable def lsX (i : Nat) : Str := if i = 2 then Str.ofString "-xTt" else Str.ofString "-xSs"
noncomputable def lsStep (mode : Int) (i : Nat) (t : Str) : Str :=
  (t ++ (ch (cAt (Str.ofString "-r") (mode / 8 ^ (2 - i) % 8 / 4)) ++ ch (cAt (Str.ofString "-w") (mode / 8 ^ (2 - i) % 8 / 2 % 2)))) ++ ch (cAt (lsX i) (mode / 8 ^ (2 - i) % 8 % 2 + 2 * (mode / 2 ^ (11 - i) % 2)))
noncomputable def lsText (mode : Int) : Nat → Str
  | 0 => ch (cAt (Str.ofString "?pc?d?b?-?l?s???") (mode / 4096))
  | i + 1 => lsStep mode i (lsText mode i)
theorem lsText_len (mode : Int) : ∀ i, (lsText mode i).length = 1 + 3 * i
  | 0 => rfl
  | i + 1 => by
    rw [lsText, lsStep]
    simp only [Str.length_append, ch_len, lsText_len mode i]
    (first | lia | omega)
noncomputable def listingS (mode : Int) : Str := lsText mode 3
end HVx
section HWx
set_option maxRecDepth 100000
set_option maxHeartbeats 8000000
theorem fill3 : (fun (_ : OpenLaw) (_ : Params → Frag) => True) Challenge.rw_nq0079_01 hd.heap_39 := by
  w_top off
  k_fill
  trivial
theorem written_ok {w : World} {A₀ : Around} {base h₀ : Heap} {env : Env} {outer : List Env} {L : Addr} {m mg mb : Str → Option Value} {mean : ExcName → Option Value}
   {s : Shared} {news : List (Addr × Obj)} {mode : Int} {alt : Str} {t1 t2 : Tok} {Q : Value → Shared → Prop} {E : Value → Shared → Prop}
   (B : Below A₀ base outer h₀) (X : (hd.heap_39 w.params).In h₀) (T : Top hd.view_39 LS mean mg mb h₀) (F : Fr h₀ L s.heap m) (N : News h₀ L s.heap news)
   (hf : env.frame = some L) (hk : env.scope.kind = .function) (h0 : 0 ≤ mode) (h1 : mode < 65536) (ha : alt.length = 2)
   (h : ∀ h' tk t', Fr h₀ L h' m → News h₀ L h' news → Q (.str (writtenS alt mode) t') { s with heap := h', toks := tk }) :
   wpAny (model prog w) (Ar 303 10 (env :: outer)) (call (.ref 140) [.int mode t1, .str alt t2]) Q E s := by
  refine wpAny_call ?_
  have hsl : (Str.ofString "ABCDEFGHIJKLMNOPQRSTUVWXYZabcdefghijklmnopqrstuvwxyz0123456789" ++ alt).length = 64 := by
    rw [Str.length_append, ha]
    have : (Str.ofString "ABCDEFGHIJKLMNOPQRSTUVWXYZabcdefghijklmnopqrstuvwxyz0123456789").length = 62 := by decide +kernel
    rw [this]
  k_with_none
  k_with "subscriptTail" => (k_here; (with_reducible show wpAny _ _ (subscriptTail _ _ (Value.ref _) (Value.int _ _)) _ _ _); k_dflt (refine' row_sub ?k1 ?k2 ?k3 ?k4 ?k5 ?k6 ?_ ?k7 ?k8; (case k1 => k_asm); (case k2 => k_mem); (case k3 => with_reducible assumption); (case k4 => (first | exact Int.natCast_nonneg _ | ((try simp only [shr1]); (first | lia | omega)))); (case k5 => (first | exact Int.ofNat_lt.mpr (by assumption) | ((try simp only [shr1]); (first | lia | omega)))); (case k6 => (first | assumption | ((try simp only [List.length_dropLast, List.length_set]); (first | lia | omega)))); (case k7 => with_unfolding_all rfl); (case k8 => intro _; with_unfolding_all rfl); k_whole); intro _ _ _ _ _ _)
  k_with "compareOp Lt ref ref" => (k_here; k_dflt (refine' lt_rowR ?k1 ?k5 ?k2 ?k3 ?k4 ?_; (case k1 => k_asm); (case k5 => with_reducible assumption); (case k2 => with_reducible assumption); (case k3 => with_reducible assumption); (case k4 => k_units); k_whole))
  k_with "setItem ref int" => (k_here; (with_reducible show wpAny _ _ (setItem (Value.ref _) (Value.int _ _) (Value.ref _)) _ _ _); k_dflt (refine' row_set ?k1 ?k2 ?k3 ?k4 ?k5 ?k6 ?k7 ?k8 ?_; (case k1 => k_asm); (case k2 => k_asm); (case k3 => k_upd); (case k4 => with_reducible assumption); (case k5 => exact ⟨_, _, _, _, rfl, by assumption⟩); (case k6 => (first | exact Int.natCast_nonneg _ | lia | omega)); (case k7 => (first | exact Int.ofNat_lt.mpr (by assumption) | lia | omega)); (case k8 => (first | assumption | ((try simp only [List.length_dropLast, List.length_set]); (first | lia | omega)))); k_whole); intro _ _ _ _; (try k_sweep))
  k_with "call builtin:len" => (k_here; (with_reducible show wpAny _ _ (call (Value.builtin _) [Value.ref _]) _ _ _); k_dflt (refine' row_len ?k1 ?k2 ?k3 ?k4 ?_; (case k1 => k_asm); (case k2 => k_mem); (case k3 => with_reducible assumption); (case k4 => (first | assumption | lia | omega)); k_whole))
  k_with "call builtin:list.pop" => (k_here; (with_reducible show wpAny _ _ (call (Value.builtin _) [Value.ref _]) _ _ _); k_dflt (refine' row_pop ?F ?N ?U ?i ?l ?z ?_; (case F => k_asm); (case N => k_asm); (case U => k_upd); (case i => with_reducible assumption); (case l => (first | assumption | lia | omega)); (case z => (first | assumption | lia | omega)); k_whole); intro _ _ _ _ _ _ _ _ _; (try k_sweep))
  k_with "truthy ref" => (k_here; (with_reducible show wpAny _ _ (truthy (Value.ref _)) _ _ _); k_dflt (refine' row_truthy ?N ?m ?i ?z ?_; (case N => k_asm); (case m => k_mem); (case i => with_reducible assumption); (case z => ((try simp only [List.length_dropLast]); (first | lia | omega))); k_whole))
  k_with "subscriptTail" => (k_here; (with_reducible show wpAny _ _ (subscriptTail _ _ (Value.str _ _) (Value.int _ _)) _ _ _); k_dflt (refine' str_at ?hl ?k4 ?k5 ?k6 ?_ ?k7 ?k8; (case hl => assumption); (case k6 => decide); (case k4 | k5 => ((try simp only [Nat.cast_ofNat, fd2, fd4, fd8, fd16, fd64, fd256, fd512, fd1024, fd2048, fd4096, fd65536, fm2, fm4, fm8, fm16, fm64, fm256, fm512, fm1024, fm2048, fm4096, fm65536, Int.reduceSub, Int.reduceToNat, Int.reducePow, Int.reduceAdd, Int.reduceMul]); (first | exact Int.emod_nonneg _ (by decide) | exact Int.emod_lt_of_pos _ (by decide) | exact Int.ediv_nonneg (by assumption) (by decide) | lia | omega))); (case k7 => with_unfolding_all rfl); (case k8 => intro _; with_unfolding_all rfl); k_whole))
  k_with "subscriptTail Name BinOp str int" => (k_here; (with_reducible show wpAny _ _ (subscriptTail _ _ (Value.str _ _) (Value.int _ _)) _ _ _); k_dflt (refine' str_at ?hl ?k4 ?k5 ?k6 ?_ ?k7 ?k8; (case hl => assumption); (case k6 => decide); (case k4 | k5 => ((try simp only [Nat.cast_ofNat, fd2, fd4, fd8, fd16, fd64, fd256, fd512, fd1024, fd2048, fd4096, fd65536, fm2, fm4, fm8, fm16, fm64, fm256, fm512, fm1024, fm2048, fm4096, fm65536, Int.reduceSub, Int.reduceToNat, Int.reducePow, Int.reduceAdd, Int.reduceMul]); (first | exact Int.emod_nonneg _ (by decide) | exact Int.emod_lt_of_pos _ (by decide) | exact Int.ediv_nonneg (by assumption) (by decide) | lia | omega))); (case k7 => with_unfolding_all rfl); (case k8 => intro _; with_unfolding_all rfl); k_whole))
  k_with "binaryOp Add str str" => (k_here; (with_reducible show wpAny _ _ (binaryOp Operator.Add (Value.str _ _) (Value.str _ _)) _ _ _); (refine add_str (hsz := ?z) ?_); (case z => (rw [sizeLine_eq]; (try simp only [Str.length_append, ch_len, eq_len, lsText_len]); (first | lia | omega))); intro _ _)
  k_with "inplaceOp Add str str" => (k_here; (with_reducible show wpAny _ _ (inplaceOp Operator.Add (Value.str _ _) (Value.str _ _)) _ _ _); (refine iadd_str (hsz := ?z) ?_); (case z => (rw [sizeLine_eq]; (try simp only [Str.length_append, ch_len, eq_len, lsText_len]); (first | lia | omega))); intro _ _)
  k_with "subscriptTail" => (k_here; (with_reducible show wpAny _ _ (subscriptTail (Expr.Tuple _ _ _) _ (Value.ref _) (Value.int _ _)) _ _ _); k_dflt (refine' kim_tup ?N ?m ?c ?d ?lo ?hi ?j ?x ?_ ?k7 ?k8; (case N => k_asm); (case m => exact List.Mem.head _); (case c => rfl); (case d => rfl); (case lo => decide); (case hi => decide); (case j => rfl); (case x => rfl); (case k7 => with_unfolding_all rfl); (case k8 => intro _; with_unfolding_all rfl); k_whole))
  (refine' code_def ?k1 ?k2 ?k3 ?k4 ?k5 ?kA ?kF ?kK ?k6 ?k7 ?k8 ?k9 ?kB ?_ ?c2 ?c3 ?c4 ?c5; (case kA => exact rfl); (case kF => assumption); (case kK => assumption); (case k1 => k_asm); (case k2 => k_asm); (case k3 => k_asm); (case k4 => k_asm); (case k5 => k_asm); (case k6 => k_is); (case k7 => k_is); (case k8 => k_room); (case k9 => first | exact BindsTo.of_eq rfl | exact binds_K (by k_in) rfl (by k_is) rfl rfl rfl | fail "k_enter: no rule for these arguments"); (case c5 => decide); (case kB => exact locs rfl); (case c2 => exact rfl); (case c3 => exact rfl); (case c4 => exact rfl); k_whole; walk_at "mine in")
  (repeat' ((fail_if_success (with_reducible show wpAny _ _ (exec (Stmt.While _ _ _ _) _) _ _ _)); (fail_if_success (with_reducible show WhileStep2 _ _ _ _ _ _ _ _)); (fail_if_success (with_reducible show wpAny _ _ (pyIter _) _ _ _)); (fail_if_success (with_reducible show InvEndG _ _ _ _ _ _)); (first | (k_unfold; (try dsimp only)) | (k_end; wrow_close) | ((first | with_reducible k_extra "subscriptTail" | walk1); (all_goals try dsimp only)) | (dsimp only; (first | with_reducible k_extra "subscriptTail" | walk1)) | (leave1; walk_say "STEP leave1"; try dsimp only) | fail "no step")))
  rename_i F9 N9 _ _
  dsimp only at F9 N9 ⊢
  have hh := fun tk t' => h _ tk t' F9 N9
  unfold writtenS alnum at hh
  simp only [fd1024, fd16, fm64, fm16]
  exact hh _ _
theorem listing_ok {w : World} {A₀ : Around} {base h₀ : Heap} {env : Env} {outer : List Env} {L : Addr} {m mg mb : Str → Option Value} {mean : ExcName → Option Value}
   {s : Shared} {news : List (Addr × Obj)} {mode : Int} {t1 : Tok} {Q : Value → Shared → Prop} {E : Value → Shared → Prop}
   (B : Below A₀ base outer h₀) (X : (hd.heap_39 w.params).In h₀) (T : Top hd.view_39 LS mean mg mb h₀) (F : Fr h₀ L s.heap m) (N : News h₀ L s.heap news)
   (hf : env.frame = some L) (hk : env.scope.kind = .function) (h0 : 0 ≤ mode) (h1 : mode < 65536)
   (h : ∀ h' tk t', Fr h₀ L h' m → News h₀ L h' news → Q (.str (listingS mode) t') { s with heap := h', toks := tk }) :
   wpAny (model prog w) (Ar 303 10 (env :: outer)) (call (.ref 147) [.int mode t1]) Q E s := by
  refine wpAny_call ?_
  have l1 : (Str.ofString "?pc?d?b?-?l?s???").length = 16 := by decide +kernel
  have l2 : (Str.ofString "-r").length = 2 := by decide +kernel
  have l3 : (Str.ofString "-w").length = 2 := by decide +kernel
  have l4 : (Str.ofString "-xSs").length = 4 := by decide +kernel
  have l5 : (Str.ofString "-xTt").length = 4 := by decide +kernel
  k_with_none
  k_with "subscriptTail" => (k_here; (with_reducible show wpAny _ _ (subscriptTail _ _ (Value.ref _) (Value.int _ _)) _ _ _); k_dflt (refine' row_sub ?k1 ?k2 ?k3 ?k4 ?k5 ?k6 ?_ ?k7 ?k8; (case k1 => k_asm); (case k2 => k_mem); (case k3 => with_reducible assumption); (case k4 => (first | exact Int.natCast_nonneg _ | ((try simp only [shr1]); (first | lia | omega)))); (case k5 => (first | exact Int.ofNat_lt.mpr (by assumption) | ((try simp only [shr1]); (first | lia | omega)))); (case k6 => (first | assumption | ((try simp only [List.length_dropLast, List.length_set]); (first | lia | omega)))); (case k7 => with_unfolding_all rfl); (case k8 => intro _; with_unfolding_all rfl); k_whole); intro _ _ _ _ _ _)
  k_with "compareOp Lt ref ref" => (k_here; k_dflt (refine' lt_rowR ?k1 ?k5 ?k2 ?k3 ?k4 ?_; (case k1 => k_asm); (case k5 => with_reducible assumption); (case k2 => with_reducible assumption); (case k3 => with_reducible assumption); (case k4 => k_units); k_whole))
  k_with "setItem ref int" => (k_here; (with_reducible show wpAny _ _ (setItem (Value.ref _) (Value.int _ _) (Value.ref _)) _ _ _); k_dflt (refine' row_set ?k1 ?k2 ?k3 ?k4 ?k5 ?k6 ?k7 ?k8 ?_; (case k1 => k_asm); (case k2 => k_asm); (case k3 => k_upd); (case k4 => with_reducible assumption); (case k5 => exact ⟨_, _, _, _, rfl, by assumption⟩); (case k6 => (first | exact Int.natCast_nonneg _ | lia | omega)); (case k7 => (first | exact Int.ofNat_lt.mpr (by assumption) | lia | omega)); (case k8 => (first | assumption | ((try simp only [List.length_dropLast, List.length_set]); (first | lia | omega)))); k_whole); intro _ _ _ _; (try k_sweep))
  k_with "call builtin:len" => (k_here; (with_reducible show wpAny _ _ (call (Value.builtin _) [Value.ref _]) _ _ _); k_dflt (refine' row_len ?k1 ?k2 ?k3 ?k4 ?_; (case k1 => k_asm); (case k2 => k_mem); (case k3 => with_reducible assumption); (case k4 => (first | assumption | lia | omega)); k_whole))
  k_with "call builtin:list.pop" => (k_here; (with_reducible show wpAny _ _ (call (Value.builtin _) [Value.ref _]) _ _ _); k_dflt (refine' row_pop ?F ?N ?U ?i ?l ?z ?_; (case F => k_asm); (case N => k_asm); (case U => k_upd); (case i => with_reducible assumption); (case l => (first | assumption | lia | omega)); (case z => (first | assumption | lia | omega)); k_whole); intro _ _ _ _ _ _ _ _ _; (try k_sweep))
  k_with "truthy ref" => (k_here; (with_reducible show wpAny _ _ (truthy (Value.ref _)) _ _ _); k_dflt (refine' row_truthy ?N ?m ?i ?z ?_; (case N => k_asm); (case m => k_mem); (case i => with_reducible assumption); (case z => ((try simp only [List.length_dropLast]); (first | lia | omega))); k_whole))
  k_with "subscriptTail" => (k_here; (with_reducible show wpAny _ _ (subscriptTail _ _ (Value.str _ _) (Value.int _ _)) _ _ _); k_dflt (refine' str_at ?hl ?k4 ?k5 ?k6 ?_ ?k7 ?k8; (case hl => assumption); (case k6 => decide); (case k4 | k5 => ((try simp only [Nat.cast_ofNat, fd2, fd4, fd8, fd16, fd64, fd256, fd512, fd1024, fd2048, fd4096, fd65536, fm2, fm4, fm8, fm16, fm64, fm256, fm512, fm1024, fm2048, fm4096, fm65536, Int.reduceSub, Int.reduceToNat, Int.reducePow, Int.reduceAdd, Int.reduceMul]); (first | exact Int.emod_nonneg _ (by decide) | exact Int.emod_lt_of_pos _ (by decide) | exact Int.ediv_nonneg (by assumption) (by decide) | lia | omega))); (case k7 => with_unfolding_all rfl); (case k8 => intro _; with_unfolding_all rfl); k_whole))
  k_with "subscriptTail Name BinOp str int" => (k_here; (with_reducible show wpAny _ _ (subscriptTail _ _ (Value.str _ _) (Value.int _ _)) _ _ _); k_dflt (refine' str_at ?hl ?k4 ?k5 ?k6 ?_ ?k7 ?k8; (case hl => assumption); (case k6 => decide); (case k4 | k5 => ((try simp only [Nat.cast_ofNat, fd2, fd4, fd8, fd16, fd64, fd256, fd512, fd1024, fd2048, fd4096, fd65536, fm2, fm4, fm8, fm16, fm64, fm256, fm512, fm1024, fm2048, fm4096, fm65536, Int.reduceSub, Int.reduceToNat, Int.reducePow, Int.reduceAdd, Int.reduceMul]); (first | exact Int.emod_nonneg _ (by decide) | exact Int.emod_lt_of_pos _ (by decide) | exact Int.ediv_nonneg (by assumption) (by decide) | lia | omega))); (case k7 => with_unfolding_all rfl); (case k8 => intro _; with_unfolding_all rfl); k_whole))
  k_with "binaryOp Add str str" => (k_here; (with_reducible show wpAny _ _ (binaryOp Operator.Add (Value.str _ _) (Value.str _ _)) _ _ _); (refine add_str (hsz := ?z) ?_); (case z => (rw [sizeLine_eq]; (try simp only [Str.length_append, ch_len, eq_len, lsText_len]); (first | lia | omega))); intro _ _)
  k_with "inplaceOp Add str str" => (k_here; (with_reducible show wpAny _ _ (inplaceOp Operator.Add (Value.str _ _) (Value.str _ _)) _ _ _); (refine iadd_str (hsz := ?z) ?_); (case z => (rw [sizeLine_eq]; (try simp only [Str.length_append, ch_len, eq_len, lsText_len]); (first | lia | omega))); intro _ _)
  k_with "subscriptTail" => (k_here; (with_reducible show wpAny _ _ (subscriptTail (Expr.Tuple _ _ _) _ (Value.ref _) (Value.int _ _)) _ _ _); k_dflt (refine' kim_tup ?N ?m ?c ?d ?lo ?hi ?j ?x ?_ ?k7 ?k8; (case N => k_asm); (case m => exact List.Mem.head _); (case c => rfl); (case d => rfl); (case lo => decide); (case hi => decide); (case j => rfl); (case x => rfl); (case k7 => with_unfolding_all rfl); (case k8 => intro _; with_unfolding_all rfl); k_whole))
  (refine' code_def ?k1 ?k2 ?k3 ?k4 ?k5 ?kA ?kF ?kK ?k6 ?k7 ?k8 ?k9 ?kB ?_ ?c2 ?c3 ?c4 ?c5; (case kA => exact rfl); (case kF => assumption); (case kK => assumption); (case k1 => k_asm); (case k2 => k_asm); (case k3 => k_asm); (case k4 => k_asm); (case k5 => k_asm); (case k6 => k_is); (case k7 => k_is); (case k8 => k_room); (case k9 => first | exact BindsTo.of_eq rfl | exact binds_K (by k_in) rfl (by k_is) rfl rfl rfl | fail "k_enter: no rule for these arguments"); (case c5 => decide); (case kB => exact locs rfl); (case c2 => exact rfl); (case c3 => exact rfl); (case c4 => exact rfl); k_whole; walk_at "mine in")
  (repeat' ((fail_if_success (with_reducible show wpAny _ _ (exec (Stmt.While _ _ _ _) _) _ _ _)); (fail_if_success (with_reducible show WhileStep2 _ _ _ _ _ _ _ _)); (fail_if_success (with_reducible show wpAny _ _ (pyIter _) _ _ _)); (fail_if_success (with_reducible show InvEndG _ _ _ _ _ _)); (first | (k_unfold; (try dsimp only)) | (k_end; wrow_close) | ((first | with_reducible k_extra "subscriptTail" | walk1); (all_goals try dsimp only)) | (dsimp only; (first | with_reducible k_extra "subscriptTail" | walk1)) | (leave1; walk_say "STEP leave1"; try dsimp only) | fail "no step")))
  rename_i h1' F1 N1 h3 tk3 t5 u5 v5 hr F2 N2 _
  refine rng_loop (k := 3) (fun i m1 nx => nx = news ∧ m1 (Str.ofString "mode") = some (Value.int mode t1) ∧ ∃ t', m1 (Str.ofString "text") = some (Value.str (lsText mode i) t')) rfl hr (by (first | lia | omega)) F2 N2 ⟨rfl, rfl, str_eq rfl ?_⟩ ?_ ?_
  · rw [lsText, fd4096]
  · clear F1 N1 F2 N2
    rintro i t m1 nx h4 tk4 own hi hoff1 ⟨rfl, q1, t', q2⟩ F3 N3
    rcases (by (first | lia | omega) : i = 0 ∨ i = 1 ∨ i = 2) with rfl | rfl | rfl
    · replace F3 := (((Ov.nil F3).cons (x := Str.ofString "mode") ((if_neg (by decide)).trans q1)).cons (x := Str.ofString "text") ((if_neg (by decide)).trans q2)).cons (x := Str.ofString "place") (v := .int 0 t) (if_pos rfl) |>.fr
      (try ((with_reducible show wpAny _ _ _ _ _ _); k_fold))
      (repeat' ((fail_if_success (with_reducible show wpAny _ _ (exec (Stmt.While _ _ _ _) _) _ _ _)); (fail_if_success (with_reducible show WhileStep2 _ _ _ _ _ _ _ _)); (fail_if_success (with_reducible show wpAny _ _ (pyIter _) _ _ _)); (fail_if_success (with_reducible show InvEndG _ _ _ _ _ _)); (first | (k_unfold; (try dsimp only)) | (k_end; wrow_close) | ((first | with_reducible k_extra "subscriptTail" | walk1); (all_goals try dsimp only)) | (dsimp only; (first | with_reducible k_extra "subscriptTail" | walk1)) | (leave1; walk_say "STEP leave1"; try dsimp only) | fail "no step")))
      rename_i F9 N9
      refine InvEndG.intro F9 N9 (nx := nx) ⟨rfl, rfl, str_eq rfl ?_⟩ hoff1 (fun p hp => .tail _ (List.mem_append_left _ hp)) (fun p hp => .tail _ (List.mem_append_right _ hp))
      show _ = lsStep mode 0 (lsText mode 0)
      unfold lsStep
      simp only [lsX, Nat.reduceEqDiff, if_true, if_false, fd1, fd2, fd4, fd8, fd16, fd64, fd256, fd512, fd1024, fd2048, fd4096, fd65536, fm2, fm4, fm8, fm16, fm64, fm256, fm512, fm1024, fm2048, fm4096, fm65536, Int.reduceSub, Int.reduceToNat, Int.reducePow, Int.reduceAdd, Int.reduceMul, Nat.reduceSub, Nat.reduceAdd]
    · replace F3 := (((Ov.nil F3).cons (x := Str.ofString "mode") ((if_neg (by decide)).trans q1)).cons (x := Str.ofString "text") ((if_neg (by decide)).trans q2)).cons (x := Str.ofString "place") (v := .int 1 t) (if_pos rfl) |>.fr
      (try ((with_reducible show wpAny _ _ _ _ _ _); k_fold))
      (repeat' ((fail_if_success (with_reducible show wpAny _ _ (exec (Stmt.While _ _ _ _) _) _ _ _)); (fail_if_success (with_reducible show WhileStep2 _ _ _ _ _ _ _ _)); (fail_if_success (with_reducible show wpAny _ _ (pyIter _) _ _ _)); (fail_if_success (with_reducible show InvEndG _ _ _ _ _ _)); (first | (k_unfold; (try dsimp only)) | (k_end; wrow_close) | ((first | with_reducible k_extra "subscriptTail" | walk1); (all_goals try dsimp only)) | (dsimp only; (first | with_reducible k_extra "subscriptTail" | walk1)) | (leave1; walk_say "STEP leave1"; try dsimp only) | fail "no step")))
      rename_i F9 N9
      refine InvEndG.intro F9 N9 (nx := nx) ⟨rfl, rfl, str_eq rfl ?_⟩ hoff1 (fun p hp => .tail _ (List.mem_append_left _ hp)) (fun p hp => .tail _ (List.mem_append_right _ hp))
      show _ = lsStep mode 1 (lsText mode 1)
      unfold lsStep
      simp only [lsX, Nat.reduceEqDiff, if_true, if_false, fd1, fd2, fd4, fd8, fd16, fd64, fd256, fd512, fd1024, fd2048, fd4096, fd65536, fm2, fm4, fm8, fm16, fm64, fm256, fm512, fm1024, fm2048, fm4096, fm65536, Int.reduceSub, Int.reduceToNat, Int.reducePow, Int.reduceAdd, Int.reduceMul, Nat.reduceSub, Nat.reduceAdd]
    · replace F3 := (((Ov.nil F3).cons (x := Str.ofString "mode") ((if_neg (by decide)).trans q1)).cons (x := Str.ofString "text") ((if_neg (by decide)).trans q2)).cons (x := Str.ofString "place") (v := .int 2 t) (if_pos rfl) |>.fr
      (try ((with_reducible show wpAny _ _ _ _ _ _); k_fold))
      (repeat' ((fail_if_success (with_reducible show wpAny _ _ (exec (Stmt.While _ _ _ _) _) _ _ _)); (fail_if_success (with_reducible show WhileStep2 _ _ _ _ _ _ _ _)); (fail_if_success (with_reducible show wpAny _ _ (pyIter _) _ _ _)); (fail_if_success (with_reducible show InvEndG _ _ _ _ _ _)); (first | (k_unfold; (try dsimp only)) | (k_end; wrow_close) | ((first | with_reducible k_extra "subscriptTail" | walk1); (all_goals try dsimp only)) | (dsimp only; (first | with_reducible k_extra "subscriptTail" | walk1)) | (leave1; walk_say "STEP leave1"; try dsimp only) | fail "no step")))
      rename_i F9 N9
      refine InvEndG.intro F9 N9 (nx := nx) ⟨rfl, rfl, str_eq rfl ?_⟩ hoff1 (fun p hp => .tail _ (List.mem_append_left _ hp)) (fun p hp => .tail _ (List.mem_append_right _ hp))
      show _ = lsStep mode 2 (lsText mode 2)
      unfold lsStep
      simp only [lsX, Nat.reduceEqDiff, if_true, if_false, fd1, fd2, fd4, fd8, fd16, fd64, fd256, fd512, fd1024, fd2048, fd4096, fd65536, fm2, fm4, fm8, fm16, fm64, fm256, fm512, fm1024, fm2048, fm4096, fm65536, Int.reduceSub, Int.reduceToNat, Int.reducePow, Int.reduceAdd, Int.reduceMul, Nat.reduceSub, Nat.reduceAdd]
  · clear F1 N1 F2 N2
    rintro m1 nx h4 tk4 ⟨rfl, q1, t', q2⟩ F3 N3
    replace F3 := (Ov.nil F3).cons q2 |>.fr
    (try ((with_reducible show wpAny _ _ _ _ _ _); k_fold))
    (repeat' ((fail_if_success (with_reducible show wpAny _ _ (exec (Stmt.While _ _ _ _) _) _ _ _)); (fail_if_success (with_reducible show WhileStep2 _ _ _ _ _ _ _ _)); (fail_if_success (with_reducible show wpAny _ _ (pyIter _) _ _ _)); (fail_if_success (with_reducible show InvEndG _ _ _ _ _ _)); (first | (k_unfold; (try dsimp only)) | (k_end; wrow_close) | ((first | with_reducible k_extra "subscriptTail" | walk1); (all_goals try dsimp only)) | (dsimp only; (first | with_reducible k_extra "subscriptTail" | walk1)) | (leave1; walk_say "STEP leave1"; try dsimp only) | fail "no step")))
    rename_i F9 N9 _ _
    exact h _ _ _ F9 N9
end HWx
section HCx
open PySem PySem.W PyProof.Rows PyProof.Rows.LCg
set_option maxRecDepth 100000
set_option maxHeartbeats 4000000
/-! comprehensions with a pair's target -/
section
variable {prog : Program} {w : World} {A : Around} {E : Value → Shared → Prop} {s : Shared} {h₀ : Heap} {L : Addr} {m : Str → Option Value} {env : Env}
/-- one turn's loop with tests, the target a pair -/
theorem compLoop_any {elt target iter : PySem.Expr} {ifs : List PySem.Expr} {scope : Scope} {pos : Pos} {it acc : Value} {env : Env} {R : Result → Shared → Prop} (I : Nat → Shared → Prop)
    (turn : ∀ n s, I n s → wpAny (model prog w) A (pyNext it) (fun r s₁ => match r with
      | none => R (.ok .next) s₁
      | some v => wpAny (model prog w) A (letOwnedTupleGo target it v) (fun _ s₁' => wpAny (model prog w) A (assign target env v) (fun _ s₂ =>
          wpAny (model prog w) A (forIn ifs true fun c r => if r = true then do let ok ← isTrue c env (eval c env); pure (ForInStep.yield ok) else pure (ForInStep.yield r)) (fun ok s₃ =>
            if ok = true then wpAny (model prog w) A (eval elt env) (fun x s₄ =>
              wpAny (model prog w) A (call (.builtin "list.append") [acc, x]) (fun _ s₅ => ∃ m, m < n ∧ I m s₅) (notedBy (model prog w) A env fun e s' => R (.error e) s') s₄) (notedBy (model prog w) A env fun e s' => R (.error e) s') s₃
            else ∃ m, m < n ∧ I m s₃) (notedBy (model prog w) A env fun e s' => R (.error e) s') s₂) (notedBy (model prog w) A env fun e s' => R (.error e) s') s₁') (notedBy (model prog w) A env fun e s' => R (.error e) s') s₁) (notedBy (model prog w) A env fun e s' => R (.error e) s') s)
    (n : Nat) (h : I n s) : codeAny (model prog w) A (.compLoop (.ListComp elt [⟨target, iter, ifs, 0⟩] scope pos) 0 it acc env) R s := by
  refine codeAny_loop rfl I (fun n s hI => ?_) n h
  show wpAny _ A ((compTurn (.ListComp elt [⟨target, iter, ifs, 0⟩] scope pos) 0 it acc env).onRaise (fun x => do noteFrame x env; theTreesLotGoes x)) _ _ s
  refine wpAny_noted ?_
  rw [compTurn_list]
  refine wpAny_bind (wpAny_standAt (wpAny_bind (wpAny_mono (turn n s hI) (fun r s₁ h₁ => ?_) fun _ _ h' => h')))
  cases r with
  | none => exact wpAny_pure h₁
  | some v =>
    refine wpAny_bind (wpAny_mono h₁ (fun _ s₁' h₁' => ?_) fun _ _ h' => h')
    refine wpAny_bind (wpAny_mono h₁' (fun _ s₂ h₂ => wpAny_bind (wpAny_mono h₂ (fun ok s₃ h₃ => ?_) fun _ _ h' => h')) fun _ _ h' => h')
    cases ok with
    | false => exact wpAny_pure ⟨rfl, h₃⟩
    | true =>
      exact wpAny_bind (wpAny_bind (wpAny_mono h₃ (fun x s₄ h₄ => wpAny_bind (wpAny_mono h₄ (fun _ s₅ h₅ => wpAny_pure (wpAny_pure ⟨rfl, h₅⟩)) fun _ _ h' => h')) fun _ _ h' => h'))
/-- the end of an element: the comprehension's own stand, the ledger may have grown -/
inductive CEnd (h₀ : Heap) (L : Addr) (m : Str → Option Value) (s₂ : Shared) (C : Addr) (oC : Obj) (D : Addr) (oD : Obj) (own : List (Addr × Obj)) (rest : Value → List (Addr × Obj) → Prop) (y : Value) (s₄ : Shared) : Prop
  | mk (h' : Heap) (tk : Nat) (all nx' : List (Addr × Obj)) (a1 : s₄ = { s₂ with heap := h', toks := tk }) (a2 : Fr h₀ L h' m) (a3 : News h₀ L h' all) (a4 : (C, oC) ∈ all) (a5 : (D, oD) ∈ all) (a6 : ∀ p ∈ own, p ∈ all) (a7 : ∀ p ∈ nx', p ∈ all) (a8 : ∀ p ∈ nx', p.1 ≠ C ∧ p.1 ≠ D) (a9 : OwnOff own (nx'.map (·.1))) (a10 : rest y nx')
inductive CtI (h₀ : Heap) (L : Addr) (m : Str → Option Value) (s₂ : Shared) (n : Nat) (St : Nat → Heap → Prop) (wr : List Addr) (C D : Addr) (J : Nat → List Value → List (Addr × Obj) → Prop) (c : Nat) (s' : Shared) : Prop
  | mk (h' : Heap) (tk i : Nat) (ys : List Value) (m' : Str → Option Value) (nx : List (Addr × Obj)) (a1 : s' = { s₂ with heap := h', toks := tk }) (a2 : i ≤ n) (a3 : c = n + 1 - i) (a4 : ys.length = i) (a5 : St i h') (a6 : Fr h₀ L h' m) (a7 : h'.Ns C m') (a8 : News h₀ L h' ((D, lst ys) :: nx)) (a9 : ∀ p ∈ nx, p.1 ∉ wr ∧ p.1 ≠ C ∧ p.1 ≠ D) (a10 : J i ys nx)
inductive CwI (h₀ : Heap) (L : Addr) (m : Str → Option Value) (s₂ : Shared) (n : Nat) (St : Nat → Heap → Prop) (I C D : Addr) (J : Nat → List Value → List (Addr × Obj) → Prop) (c : Nat) (s' : Shared) : Prop
  | mk (h' : Heap) (tk i : Nat) (ys : List Value) (m' : Str → Option Value) (nx : List (Addr × Obj)) (a1 : s' = { s₂ with heap := h', toks := tk }) (a2 : i ≤ n) (a3 : c = n + 1 - i) (a5 : St i h') (a6 : Fr h₀ L h' m) (a7 : h'.Ns C m') (a8 : News h₀ L h' ((D, lst ys) :: nx)) (a9 : ∀ p ∈ nx, p.1 ≠ I ∧ p.1 ≠ C ∧ p.1 ≠ D) (a10 : J i ys nx)
inductive CwF (h₀ : Heap) (L : Addr) (m : Str → Option Value) (s₂ : Shared) (St : Heap → Prop) (I C D : Addr) (oD : Obj) (J : List (Addr × Obj) → Prop) (s₄ : Shared) : Prop
  | mk (h' : Heap) (tk' : Nat) (nx' all : List (Addr × Obj)) (mm : Str → Option Value) (a1 : s₄ = { s₂ with heap := h', toks := tk' }) (a2 : Fr h₀ L h' m) (a3 : News h₀ L h' all) (a4 : St h') (a5 : h'.Ns C mm) (a6 : (D, oD) ∈ all) (a7 : ∀ p ∈ nx', p ∈ all) (a8 : ∀ p ∈ nx', p.1 ≠ I ∧ p.1 ≠ C ∧ p.1 ≠ D) (a9 : J nx')
/-- over an enumerate, no test -/
theorem compT {elt iter : PySem.Expr} {x x₂ : Str} {px px₂ tp : Pos} {x1 : Nat} {scope : Scope} {cl : List (Str × Addr)} {pos : Pos} {s₂ : Shared} {I k : Addr} {wr fp : List Addr} {n : Nat} {Pt : Nat → Array Value → Prop} {St : Nat → Heap → Prop} {Mid : Nat → Addr → Heap → Prop}
    {P2 : Nat → Value → Value → Prop} {news : List (Addr × Obj)} {ok : Obj} {RR : Value → Addr → Result → Shared → Prop} (J : Nat → List Value → List (Addr × Obj) → Prop)
    (hh : A.handled = none) (W : WalksT prog w A I fp wr n Pt St Mid) (hsz : n ≤ 1000) (hfp : ∀ b ∈ fp, b ∈ wr ∨ b = k) (hob : ∀ i h, St i h → ∀ b ∈ wr, ∃ o, h.get? b = some o)
    (h2 : ∀ i vals, Pt i vals → ∃ v0 v1, vals = #[v0, v1] ∧ P2 i v0 v1)
    (hcell : ∀ y ∈ scope.names, y.2 ≠ .cell) (hkind : scope.kind = .function) (hx : scope.names.lookup x = some .local) (hx₂ : scope.names.lookup x₂ = some .local) (hxx : x ≠ x₂)
    (hLf : L ∉ wr) (hwr : ∀ b ∈ wr, h₀.get? b = none) (hnw : ∀ p ∈ news, p.1 ∉ wr) (hkl : k < s₂.heap.objs.size) (hwl : ∀ b ∈ wr, b < s₂.heap.objs.size) (hkeep : h₀.get? k = some ok ∨ ∀ i ys nx, J i ys nx → (k, ok) ∈ nx)
    (hst : St 0 s₂.heap) (F : Fr h₀ L s₂.heap m) (N : News h₀ L s₂.heap news) (hj : J 0 [] news)
    (turn : ∀ i v0 v1 C oC D ys nx own m₂ h tk (E' : Value → Shared → Prop), i < n → P2 i v0 v1 → J i ys nx → OwnOff own (nx.map (·.1)) → NsObj oC m₂ → m₂ x = some v0 → m₂ x₂ = some v1 → Fr h₀ L h m → (∀ p ∈ nx ++ own, p.1 ≠ C ∧ p.1 ≠ D) → @Ne Nat C D → News h₀ L h ((C, oC) :: (D, lst ys) :: (nx ++ own)) →
      wpAny (model prog w) A (eval elt (compEnvC scope cl C env)) (CEnd h₀ L m s₂ C oC D (lst ys) own (fun y nx' => J (i + 1) (ys ++ [y]) nx')) E' { s₂ with heap := h, toks := tk })
    (hRR : ∀ D C h tk m' ys nx, Fr h₀ L h m → News h₀ L h ((D, lst ys) :: nx) → (∀ p ∈ nx, p.1 ≠ D) → h.Ns C m' → h₀.get? C = none → C ≠ L → C ≠ D → (∀ p ∈ nx, p.1 ≠ C) → J n ys nx → RR (.ref D) C (.ok .next) { s₂ with heap := h, toks := tk }) :
    wpAny (model prog w) A (newList []) (fun acc s₃ => wpAny (model prog w) A (newFunctionEnv scope env.globals cl [] env.qual none .none (some env)) (fun cenv s₄ =>
      codeAny (model prog w) A (.compStart (.ListComp elt [⟨.Tuple [.Name x px, .Name x₂ px₂] x1 tp, iter, [], 0⟩] scope pos) 0 (.ref I) acc { cenv with scope := relabel scope env }) (RR acc cenv.locals) s₄) E s₃) E s₂ := by
  refine wpAny_newObj_type (wpAny_newFunctionEnv hcell (by intro y hy; simp at hy) (fun h₁ hns₁ hsb₁ => ?_) hkind)
  dsimp only at hns₁ hsb₁ ⊢
  generalize hH2 : s₂.heap.push { cls := .type "list", dict := none, data := .seq ([] : List Value).toArray } = H2 at hns₁ hsb₁ ⊢
  have hC : H2.objs.size = s₂.heap.objs.size + 1 := by rw [← hH2, Heap.size_push]
  generalize hCe : H2.objs.size = C at *
  generalize hDe : s₂.heap.objs.size = D at *
  have hDC : D ≠ C := by (first | lia | omega)
  have below : ∀ b, b < D → b ≠ C ∧ b ≠ D := fun b hb => ⟨by rw [hC]; exact Nat.ne_of_lt (Nat.lt_succ_of_lt hb), Nat.ne_of_lt hb⟩
  have old : ∀ b o, s₂.heap.get? b = some o → h₁.get? b = some o := fun b o e => hsb₁.extBut b o (below b (hDe ▸ Heap.lt_size e)).1 (Heap.get?_push_of_some _ (hH2 ▸ Heap.get?_push_of_some _ e))
  have hacc : h₁.get? D = some (lst []) := hsb₁.extBut _ _ hDC (Heap.get?_push_of_some _ (hH2 ▸ hDe ▸ Heap.get?_push_size _ rfl))
  have hst₁ : St 0 h₁ := W.frame _ _ _ hst fun b _ o e => old b o e
  have fresh₀ : ∀ a, D ≤ a → h₀.get? a = none := fun a ha => by
    cases e : h₀.get? a with
    | none => rfl
    | some o' => have := Heap.lt_size (F.keep a o' e); rw [hDe] at this; exact absurd this (Nat.not_lt.mpr ha)
  have hD₀ : h₀.get? D = none := fresh₀ _ (Nat.le_refl _)
  have hC₀ : h₀.get? C = none := fresh₀ _ (by rw [hC]; exact Nat.le_succ _)
  have hLlt : L < D := hDe ▸ F.ns.lt
  have hDL : D ≠ L := Ne.symm (below L hLlt).2
  have hCL : C ≠ L := Ne.symm (below L hLlt).1
  have hwC : C ∉ wr := fun hm => (below C (hwl C hm)).1 rfl
  have hwD : D ∉ wr := fun hm => (below D (hwl D hm)).2 rfl
  have hfC : ∀ b ∈ fp, b ≠ C ∧ b ≠ D := fun b hb => by
    rcases hfp b hb with hb | rfl
    · exact below b (hwl b hb)
    · exact below _ hkl
  have oldw : ∀ b o, h₀.get? b = some o → b ∉ wr := fun b o e hb => by rw [hwr b hb] at e; cases e
  have loop : ∀ s₃ : Shared, s₃ = { s₂ with heap := h₁, toks := s₂.toks + ([] : List (Str × Value)).length } →
      codeAny (model prog w) A (.compLoop (.ListComp elt [⟨.Tuple [.Name x px, .Name x₂ px₂] x1 tp, iter, [], 0⟩] scope pos) 0 (.ref I) (.ref D) (compEnvC scope cl C env)) (RR (.ref D) C) s₃ := by
    rintro s₃ rfl
    refine compLoop_any (CtI h₀ L m s₂ n St wr C D J) ?_ (n + 1)
      ⟨h₁, _, 0, [], _, news, rfl, Nat.zero_le _, rfl, rfl, hst₁, F.keeps old, hns₁, fun p hp => ?_, fun p hp => ⟨hnw p hp, below _ (hDe ▸ Heap.lt_size (N p hp).1)⟩, hj⟩
    · rintro c s' ⟨H, tk, i, ys, m', nx, rfl, hi, rfl, hyl, hst', F', hn', N', hnx, hJ⟩
      have next : ∀ h₂ : Heap, (∀ b o, b ∉ wr → H.get? b = some o → h₂.get? b = some o) → Fr h₀ L h₂ m ∧ News h₀ L h₂ ((D, lst ys) :: nx) ∧ h₂.Ns C m' := fun h₂ hk₂ =>
        ⟨⟨F'.ns.at' fun o e => hk₂ _ o hLf e, fun b o e => hk₂ b o (oldw b o e) (F'.keep b o e), F'.above⟩, fun p hp => ⟨hk₂ _ _ (by
          rcases List.mem_cons.mp hp with rfl | hp
          · exact hwD
          · exact (hnx p hp).1) (N' p hp).1, (N' p hp).2⟩, hn'.at' fun o e => hk₂ _ o hwC e⟩
      by_cases hlt : i < n
      · refine W.item i _ _ _ hlt hst' fun T vals h₂ tk₂ hPt _ hT hMid hk₂ => ?_
        obtain ⟨v0, v1, rfl, hP2⟩ := h2 i vals hPt
        refine W.go _ x1 tp i T _ _ _ hMid fun h₃ hst₃ hk₃ => ?_
        have ht₃ : h₃.IsTuple T #[v0, v1] := hT.at fun o e => hk₃ T o (W.apart i T h₂ hMid) e
        refine wpAny_assign_Tuple hh ht₃ rfl rfl fun h₄ hx₄ => ?_
        replace hx₄ : Heap.ExtBut h₃.objs.size h₃ h₄ := hx₄
        have up₄ : ∀ b o, h₃.get? b = some o → h₄.get? b = some o := fun b o y => hx₄ b o (Nat.ne_of_lt (Heap.lt_size y)) y
        obtain ⟨F₄, N₄, hn₄⟩ := next h₄ fun b o hb y => up₄ b o (hk₃ b o hb (hk₂ b o hb y))
        refine assignInOrder_cons (wpAny_assign_Name (wpAny_storeName_local (lookup_relabel_local hx) hn₄ (fun h₅ hn₅ hs₅ => ?_) (by simp [compEnvC, relabel, hkind])))
        refine assignInOrder_cons (wpAny_assign_Name (wpAny_storeName_local (lookup_relabel_local hx₂) hn₅ (fun h₆ hn₆ hs₆ => ?_) (by simp [compEnvC, relabel, hkind])))
        refine assignInOrder_nil ?_
        replace hs₅ : Heap.SameBut C h₄ h₅ := hs₅
        replace hs₆ : Heap.SameBut C h₅ h₆ := hs₆
        have up₆ : ∀ b o, b ≠ C → h₄.get? b = some o → h₆.get? b = some o := fun b o hb e => hs₆.extBut b o hb (hs₅.extBut b o hb e)
        have F₆ : Fr h₀ L h₆ m := (F₄.change hs₅ hCL hC₀).change hs₆ hCL hC₀
        have hst₆ : St (i + 1) h₆ := W.frame _ _ _ hst₃ fun b hb o e => up₆ b o (hfC b hb).1 (up₄ b o e)
        obtain ⟨oC, heC, hoC⟩ := ns_obj hn₆
        have hown : News h₀ L h₆ (ownOf h₀ wr h₆) := news_ownOf hLf
        have hsep : OwnOff (ownOf h₀ wr h₆) (nx.map (·.1)) := by
          intro p hp b hb e
          obtain ⟨q, hq, rfl⟩ := List.mem_map.mp hb
          exact (hnx q hq).1 (e ▸ ownOf_sub p hp)
        have N₆ : News h₀ L h₆ ((C, oC) :: (D, lst ys) :: (nx ++ ownOf h₀ wr h₆)) := fun p hp => by
          rcases List.mem_cons.mp hp with rfl | hp
          · exact ⟨heC, hCL, hC₀⟩
          · rcases List.mem_cons.mp hp with rfl | hp
            · exact ⟨up₆ _ _ hDC (N₄ _ (.head _)).1, hDL, hD₀⟩
            · rcases List.mem_append.mp hp with hp | hp
              · exact ⟨up₆ _ _ (hnx p hp).2.1 (N₄ p (.tail _ hp)).1, (N₄ p (.tail _ hp)).2⟩
              · exact hown p hp
        refine wpAny_tests_nil ?_
        rw [if_pos rfl]
        refine wpAny_mono (turn i v0 v1 C oC D ys nx _ _ h₆ _ _ hlt hP2 hJ hsep hoC (by simp [hxx]) (by simp) F₆ (fun p hp => ?_) (Ne.symm hDC) N₆) (fun y s₄ h₄ => ?_) fun _ _ e => e
        · rcases List.mem_append.mp hp with hp | hp
          · exact (hnx p hp).2
          · exact below _ (hwl _ (ownOf_sub p hp))
        · obtain ⟨h', tk', all, nx', rfl, F₇, N₇, mC, mD, mo, mn, hcd, hoff, hJ₇⟩ := h₄
          have hst₇ : St (i + 1) h' := W.frame _ _ _ hst₆ fun b hb o e => by
            rcases hfp b hb with hb | rfl
            · exact (N₇ _ (mo _ (mem_ownOf hb (hwr b hb) e))).1
            · rcases hkeep with hk | hk
              · have q := F₆.keep _ _ hk
                rw [e] at q
                rw [Option.some.inj q]
                exact F₇.keep _ _ hk
              · have q := (N₆ _ (.tail _ (.tail _ (List.mem_append_left _ (hk i ys nx hJ))))).1
                rw [show h₆.get? b = some o from e] at q
                rw [Option.some.inj q]
                exact (N₇ _ (mn _ (hk _ _ _ hJ₇))).1
          refine append_at (hsz := by show ys.toArray.size ≤ sizeLine; rw [List.size_toArray, hyl, sizeLine_eq]; (first | lia | omega)) (N₇ _ mD).1 fun h₈ hs₈ hD₈ => ?_
          refine ⟨n + 1 - (i + 1), by (first | lia | omega), h₈, tk', i + 1, ys ++ [y], _, nx', rfl, hlt, rfl, by rw [List.length_append, List.length_singleton, hyl], W.frame _ _ _ hst₇ fun b hb o e => hs₈.extBut b o (hfC b hb).2 e, F₇.change hs₈ hDL hD₀,
            (hoC.ns (N₇ _ mC).1).sameBut hs₈ (Ne.symm hDC), fun p hp => ?_, fun p hp => ⟨fun hq => ?_, hcd p hp⟩, hJ₇⟩
          · rcases List.mem_cons.mp hp with rfl | hp
            · exact ⟨hD₈.trans (congrArg some (lst_snoc ys y)), hDL, hD₀⟩
            · exact ⟨hs₈.extBut _ _ (hcd p hp).2 (N₇ p (mn p hp)).1, (N₇ p (mn p hp)).2⟩
          · obtain ⟨o, hbo⟩ := hob _ _ hst₆ _ hq
            exact hoff _ (mem_ownOf hq (hwr _ hq) hbo) p.1 (List.mem_map.mpr ⟨p, hp, rfl⟩) rfl
      · obtain rfl : i = n := Nat.le_antisymm hi (Nat.not_lt.mp hlt)
        refine W.done _ _ _ hst' fun h₂ tk₂ hk₂ => ?_
        obtain ⟨F₂, N₂, hn₂⟩ := next h₂ hk₂
        exact hRR _ _ h₂ tk₂ _ ys nx F₂ N₂ (fun p hp => (hnx p hp).2.2) hn₂ hC₀ hCL (Ne.symm hDC) (fun p hp => (hnx p hp).2.1) hJ
    · rcases List.mem_cons.mp hp with rfl | hp
      · exact ⟨hacc, hDL, hD₀⟩
      · exact ⟨old _ _ (N p hp).1, (N p hp).2⟩
  exact codeAny_compStart_list (loop _ rfl) (W.self 0 _ _ _ hst₁ (loop _ rfl))
/-- over a list of pairs of the ledger, with tests -/
theorem compW {elt iter : PySem.Expr} {ifs : List PySem.Expr} {x x₂ : Str} {px px₂ tp : Pos} {x1 : Nat} {scope : Scope} {cl : List (Str × Addr)} {pos : Pos} {s₂ : Shared} {I k : Addr} {n : Nat} {items : Array Value}
    {P2 : Nat → Value → Value → Prop} {news : List (Addr × Obj)} {ok : Obj} {RR : Value → Addr → Result → Shared → Prop} (J : Nat → List Value → List (Addr × Obj) → Prop)
    (hh : A.handled = none) (hsz : items.size = n) (hn1 : n ≤ 1000) (hne : k ≠ I)
    (hcell : ∀ y ∈ scope.names, y.2 ≠ .cell) (hkind : scope.kind = .function) (hx : scope.names.lookup x = some .local) (hx₂ : scope.names.lookup x₂ = some .local) (hxx : x ≠ x₂)
    (hLf : L ≠ I) (hwr : h₀.get? I = none) (hnw : ∀ p ∈ news, p.1 ≠ I) (hkl : k < s₂.heap.objs.size) (hwl : I < s₂.heap.objs.size) (hkeep : ∀ i ys nx, J i ys nx → (k, ok) ∈ nx) (hyl : ∀ i ys nx, J i ys nx → ys.length ≤ 1000)
    (hpair : ∀ i v ys nx, items[i]? = some v → J i ys nx → ∃ t v0 v1, v = .ref t ∧ (t, tupO [v0, v1]) ∈ nx ∧ P2 i v0 v1)
    (hst : s₂.heap.IsListIter I k 0 ∧ s₂.heap.IsList k items) (F : Fr h₀ L s₂.heap m) (N : News h₀ L s₂.heap news) (hj : J 0 [] news)
    (turn : ∀ i v0 v1 C oC D ys nx own m₂ h tk (E' : Value → Shared → Prop), i < n → P2 i v0 v1 → J i ys nx → OwnOff own (nx.map (·.1)) → NsObj oC m₂ → m₂ x = some v0 → m₂ x₂ = some v1 → Fr h₀ L h m → (∀ p ∈ nx ++ own, p.1 ≠ C ∧ p.1 ≠ D) → @Ne Nat C D → News h₀ L h ((C, oC) :: (D, lst ys) :: (nx ++ own)) →
      wpAny (model prog w) A (forIn ifs true fun c r => if r = true then do let ok ← isTrue c (compEnvC scope cl C env) (eval c (compEnvC scope cl C env)); pure (ForInStep.yield ok) else pure (ForInStep.yield r)) (fun ok s₃ =>
        if ok = true then wpAny (model prog w) A (eval elt (compEnvC scope cl C env)) (CEnd h₀ L m s₂ C oC D (lst ys) own (fun y nx' => J (i + 1) (ys ++ [y]) nx')) E' s₃
        else CEnd h₀ L m s₂ C oC D (lst ys) own (fun _ nx' => J (i + 1) ys nx') .none s₃) E' { s₂ with heap := h, toks := tk })
    (hRR : ∀ D C h tk m' ys nx, Fr h₀ L h m → News h₀ L h ((D, lst ys) :: nx) → (∀ p ∈ nx, p.1 ≠ D) → h.Ns C m' → h₀.get? C = none → C ≠ L → C ≠ D → (∀ p ∈ nx, p.1 ≠ C) → J n ys nx → RR (.ref D) C (.ok .next) { s₂ with heap := h, toks := tk }) :
    wpAny (model prog w) A (newList []) (fun acc s₃ => wpAny (model prog w) A (newFunctionEnv scope env.globals cl [] env.qual none .none (some env)) (fun cenv s₄ =>
      codeAny (model prog w) A (.compStart (.ListComp elt [⟨.Tuple [.Name x px, .Name x₂ px₂] x1 tp, iter, ifs, 0⟩] scope pos) 0 (.ref I) acc { cenv with scope := relabel scope env }) (RR acc cenv.locals) s₄) E s₃) E s₂ := by
  have W := Walks.list (prog := prog) (w := w) (A := A) hh I k hne items
  rw [hsz] at W
  refine wpAny_newObj_type (wpAny_newFunctionEnv hcell (by intro y hy; simp at hy) (fun h₁ hns₁ hsb₁ => ?_) hkind)
  dsimp only at hns₁ hsb₁ ⊢
  generalize hH2 : s₂.heap.push { cls := .type "list", dict := none, data := .seq ([] : List Value).toArray } = H2 at hns₁ hsb₁ ⊢
  have hC : H2.objs.size = s₂.heap.objs.size + 1 := by rw [← hH2, Heap.size_push]
  generalize hCe : H2.objs.size = C at *
  generalize hDe : s₂.heap.objs.size = D at *
  have hDC : D ≠ C := by (first | lia | omega)
  have below : ∀ b, b < D → b ≠ C ∧ b ≠ D := fun b hb => ⟨by rw [hC]; exact Nat.ne_of_lt (Nat.lt_succ_of_lt hb), Nat.ne_of_lt hb⟩
  have old : ∀ b o, s₂.heap.get? b = some o → h₁.get? b = some o := fun b o e => hsb₁.extBut b o (below b (hDe ▸ Heap.lt_size e)).1 (Heap.get?_push_of_some _ (hH2 ▸ Heap.get?_push_of_some _ e))
  have hacc : h₁.get? D = some (lst []) := hsb₁.extBut _ _ hDC (Heap.get?_push_of_some _ (hH2 ▸ hDe ▸ Heap.get?_push_size _ rfl))
  have hst₁ : h₁.IsListIter I k 0 ∧ h₁.IsList k items := W.frame _ _ _ hst fun b _ o e => old b o e
  have fresh₀ : ∀ a, D ≤ a → h₀.get? a = none := fun a ha => by
    cases e : h₀.get? a with
    | none => rfl
    | some o' => have := Heap.lt_size (F.keep a o' e); rw [hDe] at this; exact absurd this (Nat.not_lt.mpr ha)
  have hD₀ : h₀.get? D = none := fresh₀ _ (Nat.le_refl _)
  have hC₀ : h₀.get? C = none := fresh₀ _ (by rw [hC]; exact Nat.le_succ _)
  have hLlt : L < D := hDe ▸ F.ns.lt
  have hDL : D ≠ L := Ne.symm (below L hLlt).2
  have hCL : C ≠ L := Ne.symm (below L hLlt).1
  have hIC := below I hwl
  have hkC := below k hkl
  have oldw : ∀ b o, h₀.get? b = some o → b ∉ [I] := fun b o e hb => by rw [List.mem_singleton.mp hb, hwr] at e; cases e
  have loop : ∀ s₃ : Shared, s₃ = { s₂ with heap := h₁, toks := s₂.toks + ([] : List (Str × Value)).length } →
      codeAny (model prog w) A (.compLoop (.ListComp elt [⟨.Tuple [.Name x px, .Name x₂ px₂] x1 tp, iter, ifs, 0⟩] scope pos) 0 (.ref I) (.ref D) (compEnvC scope cl C env)) (RR (.ref D) C) s₃ := by
    rintro s₃ rfl
    refine compLoop_any (CwI h₀ L m s₂ n (fun i h' => h'.IsListIter I k i ∧ h'.IsList k items) I C D J) ?_ (n + 1)
      ⟨h₁, _, 0, [], _, news, rfl, Nat.zero_le _, rfl, hst₁, F.keeps old, hns₁, fun p hp => ?_, fun p hp => ⟨hnw p hp, below _ (hDe ▸ Heap.lt_size (N p hp).1)⟩, hj⟩
    · rintro c s' ⟨H, tk, i, ys, m', nx, rfl, hi, rfl, hst', F', hn', N', hnx, hJ⟩
      have next : ∀ h₂ : Heap, (∀ b o, b ∉ [I] → H.get? b = some o → h₂.get? b = some o) → Fr h₀ L h₂ m ∧ News h₀ L h₂ ((D, lst ys) :: nx) ∧ h₂.Ns C m' := fun h₂ hk₂ =>
        ⟨⟨F'.ns.at' fun o e => hk₂ _ o (by simpa using hLf) e, fun b o e => hk₂ b o (oldw b o e) (F'.keep b o e), F'.above⟩, fun p hp => ⟨hk₂ _ _ (by
          rcases List.mem_cons.mp hp with rfl | hp
          · simpa using Ne.symm hIC.2
          · simpa using (hnx p hp).1) (N' p hp).1, (N' p hp).2⟩, hn'.at' fun o e => hk₂ _ o (by simpa using Ne.symm hIC.1) e⟩
      by_cases hlt : i < n
      · refine W.item i _ _ _ hlt hst' fun v h₂ tk₂ hPv hst₂ hk₂ => ?_
        obtain ⟨F₂, N₂, hn₂⟩ := next h₂ hk₂
        obtain ⟨t, v0, v1, rfl, hmt, hP2⟩ := hpair i v ys nx hPv hJ
        have ht : h₂.IsTuple t #[v0, v1] := ⟨_, (N₂ _ (.tail _ hmt)).1, rfl, 0, rfl⟩
        refine wpAny_letOwnedTupleGo_listiter hst₂.1 ?_
        refine wpAny_assign_Tuple hh ht rfl rfl fun h₄ hx₄ => ?_
        replace hx₄ : Heap.ExtBut h₂.objs.size h₂ h₄ := hx₄
        have up₄ : ∀ b o, h₂.get? b = some o → h₄.get? b = some o := fun b o y => hx₄ b o (Nat.ne_of_lt (Heap.lt_size y)) y
        refine assignInOrder_cons (wpAny_assign_Name (wpAny_storeName_local (lookup_relabel_local hx) (hn₂.at' fun o e => up₄ _ o e) (fun h₅ hn₅ hs₅ => ?_) (by simp [compEnvC, relabel, hkind])))
        refine assignInOrder_cons (wpAny_assign_Name (wpAny_storeName_local (lookup_relabel_local hx₂) hn₅ (fun h₆ hn₆ hs₆ => ?_) (by simp [compEnvC, relabel, hkind])))
        refine assignInOrder_nil ?_
        replace hs₅ : Heap.SameBut C h₄ h₅ := hs₅
        replace hs₆ : Heap.SameBut C h₅ h₆ := hs₆
        have up₆ : ∀ b o, b ≠ C → h₂.get? b = some o → h₆.get? b = some o := fun b o hb e => hs₆.extBut b o hb (hs₅.extBut b o hb (up₄ b o e))
        have F₆ : Fr h₀ L h₆ m := ((F₂.keeps up₄).change hs₅ hCL hC₀).change hs₆ hCL hC₀
        have hst₆ : h₆.IsListIter I k (i + 1) ∧ h₆.IsList k items := W.frame _ _ _ hst₂ fun b hb o e => up₆ b o (by
          rcases List.mem_cons.mp hb with rfl | hb
          · exact hIC.1
          · rw [List.mem_singleton.mp hb]; exact hkC.1) e
        obtain ⟨oI, hoI, _⟩ := id hst₆.1
        obtain ⟨oC, heC, hoC⟩ := ns_obj hn₆
        have N₆ : News h₀ L h₆ ((C, oC) :: (D, lst ys) :: (nx ++ [(I, oI)])) := fun p hp => by
          rcases List.mem_cons.mp hp with rfl | hp
          · exact ⟨heC, hCL, hC₀⟩
          · rcases List.mem_cons.mp hp with rfl | hp
            · exact ⟨up₆ _ _ hDC (N₂ _ (.head _)).1, hDL, hD₀⟩
            · rcases List.mem_append.mp hp with hp | hp
              · exact ⟨up₆ _ _ (hnx p hp).2.1 (N₂ p (.tail _ hp)).1, (N₂ p (.tail _ hp)).2⟩
              · rw [List.mem_singleton.mp hp]
                exact ⟨hoI, Ne.symm hLf, hwr⟩
        have hsep : OwnOff [(I, oI)] (nx.map (·.1)) := by
          intro p hp b hb e
          obtain ⟨q, hq, rfl⟩ := List.mem_map.mp hb
          rw [List.mem_singleton.mp hp] at e
          exact (hnx q hq).1 e.symm
        have fin : ∀ (add : List Value) (y : Value) (s₄ : Shared), CEnd h₀ L m s₂ C oC D (lst ys) [(I, oI)] (fun y nx' => J (i + 1) (ys ++ add) nx') y s₄ → CwF h₀ L m s₂ (fun h' => h'.IsListIter I k (i + 1) ∧ h'.IsList k items) I C D (lst ys) (J (i + 1) (ys ++ add)) s₄ := by
          rintro add y s₄ ⟨h', tk', all, nx', rfl, F₇, N₇, mC, mD, mo, mn, hcd, hoff, hJ₇⟩
          refine ⟨h', tk', nx', all, _, rfl, F₇, N₇, W.frame _ _ _ hst₆ fun b hb o e => ?_, hoC.ns (N₇ _ mC).1, mD, mn, fun p hp => ⟨fun hq => ?_, hcd p hp⟩, hJ₇⟩
          · rcases List.mem_cons.mp hb with rfl | hb
            · rw [hoI] at e
              rw [← Option.some.inj e]
              exact (N₇ _ (mo _ (.head _))).1
            · rw [List.mem_singleton.mp hb] at e ⊢
              have q := (N₆ _ (.tail _ (.tail _ (List.mem_append_left _ (hkeep i ys nx hJ))))).1
              rw [show h₆.get? k = some o from e] at q
              rw [Option.some.inj q]
              exact (N₇ _ (mn _ (hkeep _ _ _ hJ₇))).1
          · exact hoff (I, oI) (.head _) p.1 (List.mem_map.mpr ⟨p, hp, rfl⟩) hq.symm
        refine wpAny_mono (turn i v0 v1 C oC D ys nx _ _ h₆ _ _ hlt hP2 hJ hsep hoC (by simp [hxx]) (by simp) F₆ (fun p hp => ?_) (Ne.symm hDC) N₆) (fun okb s₃ h₃ => ?_) fun _ _ e => e
        · rcases List.mem_append.mp hp with hp | hp
          · exact (hnx p hp).2
          · rw [List.mem_singleton.mp hp]
            exact hIC
        · cases okb with
          | true =>
            rw [if_pos rfl] at h₃ ⊢
            refine wpAny_mono h₃ (fun y s₄ h₄ => ?_) fun _ _ e => e
            obtain ⟨h', tk', nx', all, _, rfl, F₇, N₇, hst₇, hn₇, mD, mn, hnx', hJ₇⟩ := fin [y] y s₄ (by
              obtain ⟨h', tk, all, nx', a1, a2, a3, a4, a5, a6, a7, a8, a9, a10⟩ := h₄
              exact ⟨h', tk, all, nx', a1, a2, a3, a4, a5, a6, a7, a8, a9, a10⟩)
            refine append_at (hsz := by show ys.toArray.size ≤ sizeLine; rw [List.size_toArray, sizeLine_eq]; have := hyl _ _ _ hJ; (first | lia | omega)) (N₇ _ mD).1 fun h₈ hs₈ hD₈ => ?_
            refine ⟨n + 1 - (i + 1), by (first | lia | omega), h₈, tk', i + 1, ys ++ [y], _, nx', rfl, hlt, rfl, W.frame _ _ _ hst₇ fun b hb o e => hs₈.extBut b o (by
              rcases List.mem_cons.mp hb with rfl | hb
              · exact hIC.2
              · rw [List.mem_singleton.mp hb]; exact hkC.2) e, F₇.change hs₈ hDL hD₀, hn₇.sameBut hs₈ (Ne.symm hDC), fun p hp => ?_, hnx', hJ₇⟩
            rcases List.mem_cons.mp hp with rfl | hp
            · exact ⟨hD₈.trans (congrArg some (lst_snoc ys y)), hDL, hD₀⟩
            · exact ⟨hs₈.extBut _ _ (hnx' p hp).2.2 (N₇ p (mn p hp)).1, (N₇ p (mn p hp)).2⟩
          | false =>
            rw [if_neg Bool.false_ne_true] at h₃ ⊢
            obtain ⟨h', tk', nx', all, _, rfl, F₇, N₇, hst₇, hn₇, mD, mn, hnx', hJ₇⟩ := fin [] .none s₃ (by
              obtain ⟨h', tk, all, nx', a1, a2, a3, a4, a5, a6, a7, a8, a9, a10⟩ := h₃
              exact ⟨h', tk, all, nx', a1, a2, a3, a4, a5, a6, a7, a8, a9, by rw [List.append_nil]; exact a10⟩)
            rw [List.append_nil] at hJ₇
            refine ⟨n + 1 - (i + 1), by (first | lia | omega), h', tk', i + 1, ys, _, nx', rfl, hlt, rfl, hst₇, F₇, hn₇, fun p hp => ?_, hnx', hJ₇⟩
            rcases List.mem_cons.mp hp with rfl | hp
            · exact N₇ _ mD
            · exact N₇ p (mn p hp)
      · obtain rfl : i = n := Nat.le_antisymm hi (Nat.not_lt.mp hlt)
        refine W.done _ _ _ hst' fun h₂ tk₂ hk₂ => ?_
        obtain ⟨F₂, N₂, hn₂⟩ := next h₂ hk₂
        exact hRR _ _ h₂ tk₂ _ ys nx F₂ N₂ (fun p hp => (hnx p hp).2.2) hn₂ hC₀ hCL (Ne.symm hDC) (fun p hp => (hnx p hp).2.1) hJ
    · rcases List.mem_cons.mp hp with rfl | hp
      · exact ⟨hacc, hDL, hD₀⟩
      · exact ⟨old _ _ (N p hp).1, (N p hp).2⟩
  exact codeAny_compStart_list (loop _ rfl) (W.self 0 _ _ _ hst₁ (loop _ rfl))
theorem asg_comp {elt target iter : PySem.Expr} {ifs : List PySem.Expr} {y : Str} {py : Pos} {scope : Scope} {cl : List (Str × Addr)} {pos spos : Pos} {Q : Flow → Shared → Prop}
    (hsw : swapsWith (.ListComp elt [⟨target, iter, ifs, 0⟩] scope pos) (some (.Name y py)) spos.line env = pure true)
    (hclos : closureFor scope env = pure cl) (hkind : scope.kind = .function)
    (hnames : ∀ z ∈ scope.names, z.2 = .local → scope.names.lookup z.1 = some .local)
    (h : wpAny (model prog w) A (eval iter env) (fun xv s₁ => wpAny (model prog w) A (pyIter xv) (fun it s₂ =>
      wpAny (model prog w) A (newList []) (fun acc s₃ => wpAny (model prog w) A (newFunctionEnv scope env.globals cl [] env.qual none .none (some env)) (fun cenv s₄ =>
        codeAny (model prog w) A (.compStart (.ListComp elt [⟨target, iter, ifs, 0⟩] scope pos) 0 it acc { cenv with scope := relabel scope env }) (compPost (model prog w) A E (some (assign (.Name y py) env)) (fun _ s' => Q .next s') acc cenv.locals) s₄) E s₃) E s₂) E s₁) E s)
    (hs : ∀ x, foldedSetIterable iter env x = pure x := by intro _; rfl) :
    wpAny (model prog w) A (exec (.Assign [.Name y py] (.ListComp elt [⟨target, iter, ifs, 0⟩] scope pos) spos) env) Q E s := by
  rw [exec_Assign_Name_used _ _ _ _ hsw]
  refine wpAny_bind (wpAny_standAt (wpAny_bind ?_))
  show wpAny _ A (do let _ ← comprehension (.ListComp elt [⟨target, iter, ifs, 0⟩] scope pos) scope env _ (newList []) false (eval iter env) (some (assign (.Name y py) env))) _ _ s
  exact wpAny_bind (wpAny_mono (wpAny_comprehension_free (use := some (assign (.Name y py) env)) (Q := fun _ s' => Q .next s') rfl hs hclos hkind hnames h) (fun _ s' hq => wpAny_pure (wpAny_pure hq)) fun _ _ e => e)
theorem post_asg {y : Str} {py : Pos} {QQ : Shared → Prop} {D C : Addr} {h' : Heap} {tk : Nat} {m' : Str → Option Value} {ys : List Value} {nx : List (Addr × Obj)}
    (hy : env.kindOf y = some .local) (hp : (env.scope.kind == .class || (env.scope.kind == .module && env.locals != env.globals)) = false)
    (F' : Fr h₀ env.locals h' m) (N' : News h₀ env.locals h' ((D, lst ys) :: nx)) (hn : h'.Ns C m') (hC₀ : h₀.get? C = none) (hCL : C ≠ env.locals) (hCD : C ≠ D) (offC : ∀ p ∈ nx, p.1 ≠ C)
    (fin : ∀ h'' tk, Fr h₀ env.locals h'' (fun z => if z = y then some (.ref D) else m z) → News h₀ env.locals h'' ((D, lst ys) :: nx) → QQ { s with heap := h'', toks := tk }) :
    compPost (model prog w) A E (some (assign (.Name y py) env)) (fun _ s' => QQ s') (.ref D) C (.ok .next) { s with heap := h', toks := tk } := by
  show wpAny _ A (assign (.Name y py) env (.ref D)) _ _ _
  refine wpAny_assign_Name (wpAny_storeName_local hy F'.ns (fun h₂ hn₂ hs₂ => ?_) hp)
  have hL₀ : h₀.get? env.locals = none := Heap.get?_none_of_le F'.above
  have F₂ : Fr h₀ env.locals h₂ (fun z => if z = y then some (.ref D) else m z) := ⟨hn₂, fun b o e => hs₂.extBut b o (fun q => by rw [q, hL₀] at e; cases e) (F'.keep b o e), F'.above⟩
  refine ⟨m', hn.sameBut hs₂ hCL, fun h'' hs'' => fin h'' _ (F₂.change hs'' hCL hC₀) (fun p hp => ?_)⟩
  have z : h₂.get? p.1 = some p.2 := hs₂.extBut _ _ (N' p hp).2.1 (N' p hp).1
  refine ⟨hs''.extBut _ _ ?_ z, (N' p hp).2⟩
  rcases List.mem_cons.mp hp with rfl | hp
  · exact Ne.symm hCD
  · exact offC p hp
end
end HCx
section HGx
set_option maxRecDepth 100000
set_option maxHeartbeats 8000000
theorem fill4 : (fun (_ : OpenLaw) (_ : Params → Frag) => True) Challenge.rw_nq0079_01 hd.heap_39 := by
  w_top off
  k_fill
  trivial
noncomputable def rowsOf (alt : Str) (modes : List Int) : List Row := modes.zipIdx.map fun p => ⟨writtenS alt p.1, listingS p.1, (p.2 : Int)⟩
theorem rowsOf_nodup (alt : Str) (modes : List Int) : (rowsOf alt modes).Nodup := by
  unfold rowsOf
  rw [List.Nodup, List.pairwise_iff_getElem]
  intro i j hi hj hij e
  simp at e
  (first | lia | omega)
theorem toldLoop_snoc (r : Row) : ∀ (S : List Row) (told : List (Int × Row)), toldLoop (S ++ [r]) told = toldLoop S told ++ [(1 + mx (aheadOf (toldLoop S told) r), r)]
  | [], told => rfl
  | q :: S, told => by
    rw [List.cons_append, toldLoop, toldLoop, toldLoop_snoc r S]
theorem toldLoop_len : ∀ (S : List Row) (told : List (Int × Row)), (toldLoop S told).length = told.length + S.length := by
  intro S told
  have := congrArg List.length (toldLoop_snd S told)
  simpa using this
theorem ahead_skip {told : List (Int × Row)} {j : Nat} {g : Int × Row} {r : Row} (hg : told[j]? = some g) (h : strLt r.l g.2.l = true) : aheadOf (told.take (j + 1)) r = aheadOf (told.take j) r := by
  unfold aheadOf
  rw [List.take_add_one, hg, List.filter_append]
  simp [h]
theorem ahead_keep {told : List (Int × Row)} {j : Nat} {g : Int × Row} {r : Row} (hg : told[j]? = some g) (h : strLt r.l g.2.l = false) : aheadOf (told.take (j + 1)) r = aheadOf (told.take j) r ++ [g.1] := by
  unfold aheadOf
  rw [List.take_add_one, hg, List.filter_append]
  simp [h]
inductive RtI (tail : List (Addr × Obj)) (K : Nat) (rs : List Row) (i : Nat) (ys : List Value) (nx : List (Addr × Obj)) : Prop
  | mk (tups : List (Addr × Obj)) (e : nx = tups ++ tail) (hl : ∀ p ∈ tups, @LT.lt Nat _ K p.1) (hR : RowsIn tups ys (rs.take i))
inductive RgI (Tl K : Addr) (base2 : List (Addr × Obj)) (srows : List Row) (i : Nat) (m1 : Str → Option Value) (nx : List (Addr × Obj)) : Prop
  | mk (tvs : List Value) (nt : Nat) (oR : Obj) (new : List (Addr × Obj)) (q : Option Value) (a1 : nx = (Tl, listOf tvs.toArray nt) :: (K, oR) :: (new ++ base2)) (a2 : GoneIn (new ++ base2) tvs (toldLoop (srows.take i) []))
    (a3 : ∀ p ∈ new, p.1 ≠ Tl ∧ p.1 ≠ K) (a4 : oR.data = Data.cell q) (a5 : m1 (Str.ofString "told") = some (Value.ref Tl))
inductive RwI (full : List (Addr × Obj)) (told : List (Int × Row)) (r : Row) (j : Nat) (ys : List Value) (nx : List (Addr × Obj)) : Prop
  | mk (e : nx = full) (hi : IntsAre ys (aheadOf (told.take j) r))
theorem rises_ok {w : World} {A₀ : Around} {base h₀ : Heap} {env : Env} {outer : List Env} {L : Addr} {m mg mb : Str → Option Value} {mean : ExcName → Option Value}
   {s : Shared} {D : Addr} {ws : List Value} {modes : List Int} {n : Nat} {alt : Str} {t2 : Tok} {rest : List (Addr × Obj)} {Q : Value → Shared → Prop} {E : Value → Shared → Prop}
   (B : Below A₀ base outer h₀) (X : (hd.heap_39 w.params).In h₀) (T : Top hd.view_39 LS mean mg mb h₀) (F : Fr h₀ L s.heap m) (N : News h₀ L s.heap ((D, listOf ws.toArray n) :: rest))
   (hf : env.frame = some L) (hk : env.scope.kind = .function) (hI : IntsAre ws modes) (hmo : ∀ x ∈ modes, 0 ≤ x ∧ x < 65536) (hl2 : 2 ≤ modes.length) (hl : modes.length < 60) (ha : alt.length = 2)
   (h : ∀ h' tk G gvs ng rest' Z srows, Fr h₀ L h' m → News h₀ L h' ((G, listOf gvs.toArray ng) :: rest') → (∀ q ∈ (D, listOf ws.toArray n) :: rest, q ∈ rest') → GoneIn rest' gvs Z →
     srows.Perm (rowsOf alt modes) → Srt srows → Z.Perm (toldLoop srows []) → Z.Pairwise gLe → Q (.ref G) { s with heap := h', toks := tk }) :
   wpAny (model prog w) (Ar 302 7 (env :: outer)) (call (.ref 152) [.ref D, .str alt t2]) Q E s := by
  refine wpAny_call ?_
  k_with_none
  k_with "subscriptTail" => (k_here; (with_reducible show wpAny _ _ (subscriptTail _ _ (Value.ref _) (Value.int _ _)) _ _ _); k_dflt (refine' row_sub ?k1 ?k2 ?k3 ?k4 ?k5 ?k6 ?_ ?k7 ?k8; (case k1 => k_asm); (case k2 => k_mem); (case k3 => with_reducible assumption); (case k4 => (first | exact Int.natCast_nonneg _ | ((try simp only [shr1]); (first | lia | omega)))); (case k5 => (first | exact Int.ofNat_lt.mpr (by assumption) | ((try simp only [shr1]); (first | lia | omega)))); (case k6 => (first | assumption | ((try simp only [List.length_dropLast, List.length_set]); (first | lia | omega)))); (case k7 => with_unfolding_all rfl); (case k8 => intro _; with_unfolding_all rfl); k_whole); intro _ _ _ _ _ _)
  k_with "compareOp Lt ref ref" => (k_here; k_dflt (refine' lt_rowR ?k1 ?k5 ?k2 ?k3 ?k4 ?_; (case k1 => k_asm); (case k5 => with_reducible assumption); (case k2 => with_reducible assumption); (case k3 => with_reducible assumption); (case k4 => k_units); k_whole))
  k_with "setItem ref int" => (k_here; (with_reducible show wpAny _ _ (setItem (Value.ref _) (Value.int _ _) (Value.ref _)) _ _ _); k_dflt (refine' row_set ?k1 ?k2 ?k3 ?k4 ?k5 ?k6 ?k7 ?k8 ?_; (case k1 => k_asm); (case k2 => k_asm); (case k3 => k_upd); (case k4 => with_reducible assumption); (case k5 => exact ⟨_, _, _, _, rfl, by assumption⟩); (case k6 => (first | exact Int.natCast_nonneg _ | lia | omega)); (case k7 => (first | exact Int.ofNat_lt.mpr (by assumption) | lia | omega)); (case k8 => (first | assumption | ((try simp only [List.length_dropLast, List.length_set]); (first | lia | omega)))); k_whole); intro _ _ _ _; (try k_sweep))
  k_with "call builtin:len" => (k_here; (with_reducible show wpAny _ _ (call (Value.builtin _) [Value.ref _]) _ _ _); k_dflt (refine' row_len ?k1 ?k2 ?k3 ?k4 ?_; (case k1 => k_asm); (case k2 => k_mem); (case k3 => with_reducible assumption); (case k4 => (first | assumption | lia | omega)); k_whole))
  k_with "call builtin:list.pop" => (k_here; (with_reducible show wpAny _ _ (call (Value.builtin _) [Value.ref _]) _ _ _); k_dflt (refine' row_pop ?F ?N ?U ?i ?l ?z ?_; (case F => k_asm); (case N => k_asm); (case U => k_upd); (case i => with_reducible assumption); (case l => (first | assumption | lia | omega)); (case z => (first | assumption | lia | omega)); k_whole); intro _ _ _ _ _ _ _ _ _; (try k_sweep))
  k_with "truthy ref" => (k_here; (with_reducible show wpAny _ _ (truthy (Value.ref _)) _ _ _); k_dflt (refine' row_truthy ?N ?m ?i ?z ?_; (case N => k_asm); (case m => k_mem); (case i => with_reducible assumption); (case z => ((try simp only [List.length_dropLast]); (first | lia | omega))); k_whole))
  k_with "subscriptTail" => (k_here; (with_reducible show wpAny _ _ (subscriptTail _ _ (Value.str _ _) (Value.int _ _)) _ _ _); k_dflt (refine' str_at ?hl ?k4 ?k5 ?k6 ?_ ?k7 ?k8; (case hl => assumption); (case k6 => decide); (case k4 | k5 => ((try simp only [Nat.cast_ofNat, fd2, fd4, fd8, fd16, fd64, fd256, fd512, fd1024, fd2048, fd4096, fd65536, fm2, fm4, fm8, fm16, fm64, fm256, fm512, fm1024, fm2048, fm4096, fm65536, Int.reduceSub, Int.reduceToNat, Int.reducePow, Int.reduceAdd, Int.reduceMul]); (first | exact Int.emod_nonneg _ (by decide) | exact Int.emod_lt_of_pos _ (by decide) | exact Int.ediv_nonneg (by assumption) (by decide) | lia | omega))); (case k7 => with_unfolding_all rfl); (case k8 => intro _; with_unfolding_all rfl); k_whole))
  k_with "subscriptTail Name BinOp str int" => (k_here; (with_reducible show wpAny _ _ (subscriptTail _ _ (Value.str _ _) (Value.int _ _)) _ _ _); k_dflt (refine' str_at ?hl ?k4 ?k5 ?k6 ?_ ?k7 ?k8; (case hl => assumption); (case k6 => decide); (case k4 | k5 => ((try simp only [Nat.cast_ofNat, fd2, fd4, fd8, fd16, fd64, fd256, fd512, fd1024, fd2048, fd4096, fd65536, fm2, fm4, fm8, fm16, fm64, fm256, fm512, fm1024, fm2048, fm4096, fm65536, Int.reduceSub, Int.reduceToNat, Int.reducePow, Int.reduceAdd, Int.reduceMul]); (first | exact Int.emod_nonneg _ (by decide) | exact Int.emod_lt_of_pos _ (by decide) | exact Int.ediv_nonneg (by assumption) (by decide) | lia | omega))); (case k7 => with_unfolding_all rfl); (case k8 => intro _; with_unfolding_all rfl); k_whole))
  k_with "binaryOp Add str str" => (k_here; (with_reducible show wpAny _ _ (binaryOp Operator.Add (Value.str _ _) (Value.str _ _)) _ _ _); (refine add_str (hsz := ?z) ?_); (case z => (rw [sizeLine_eq]; (try simp only [Str.length_append, ch_len, eq_len, lsText_len]); (first | lia | omega))); intro _ _)
  k_with "inplaceOp Add str str" => (k_here; (with_reducible show wpAny _ _ (inplaceOp Operator.Add (Value.str _ _) (Value.str _ _)) _ _ _); (refine iadd_str (hsz := ?z) ?_); (case z => (rw [sizeLine_eq]; (try simp only [Str.length_append, ch_len, eq_len, lsText_len]); (first | lia | omega))); intro _ _)
  k_with "subscriptTail" => (k_here; (with_reducible show wpAny _ _ (subscriptTail (Expr.Tuple _ _ _) _ (Value.ref _) (Value.int _ _)) _ _ _); k_dflt (refine' kim_tup ?N ?m ?c ?d ?lo ?hi ?j ?x ?_ ?k7 ?k8; (case N => k_asm); (case m => exact List.Mem.head _); (case c => rfl); (case d => rfl); (case lo => decide); (case hi => decide); (case j => rfl); (case x => rfl); (case k7 => with_unfolding_all rfl); (case k8 => intro _; with_unfolding_all rfl); k_whole))
  k_with "call ref" => (k_here; (with_reducible show wpAny _ _ (call (Value.ref 140) _ _) _ _ _); k_dflt (refine' written_ok ?k1 ?k2 ?k3 ?k4 ?k5 ?k6 ?k7 ?k8 ?k9 ?kA ?_; (case k1 => k_asm); (case k2 => k_asm); (case k3 => k_asm); (case k4 => k_asm); (case k5 => k_asm); (case k6 => exact rfl); (case k7 => exact rfl); (case k8 => (first | lia | omega)); (case k9 => (first | lia | omega)); (case kA => assumption); k_whole); intro _ _ _ _ _; (try k_sweep))
  k_with "call ref" => (k_here; (with_reducible show wpAny _ _ (call (Value.ref 147) _ _) _ _ _); k_dflt (refine' listing_ok ?k1 ?k2 ?k3 ?k4 ?k5 ?k6 ?k7 ?k8 ?k9 ?_; (case k1 => k_asm); (case k2 => k_asm); (case k3 => k_asm); (case k4 => k_asm); (case k5 => k_asm); (case k6 => exact rfl); (case k7 => exact rfl); (case k8 => (first | lia | omega)); (case k9 => (first | lia | omega)); k_whole); intro _ _ _ _ _; (try k_sweep))
  k_with "subscriptTail" => (k_here; (with_reducible show wpAny _ _ (subscriptTail _ _ (Value.ref _) (Value.int 1 _)) _ _ _); k_dflt (refine' row_item1 ?k1 (fun _ h => h) ?k3 ?_ ?k7 ?k8; (case k1 => k_asm); (case k3 => with_reducible assumption); (case k7 => with_unfolding_all rfl); (case k8 => intro _; with_unfolding_all rfl); k_whole))
  (refine' code_defC ?k1 ?k2 ?k3 ?k4 ?k5 ?kA ?kF ?kK ?k6 ?k7 ?k8 ?k9 ?kB ?kD ?_ ?c2 ?c3 ?c4; (case kA => exact rfl); (case kF => assumption); (case kK => assumption); (case k1 => k_asm); (case k2 => k_asm); (case k3 => k_asm); (case k4 => k_asm); (case k5 => k_asm); (case k6 => k_is); (case k7 => k_is); (case k8 => k_room); (case k9 => first | exact BindsTo.of_eq rfl | exact binds_K (by k_in) rfl (by k_is) rfl rfl rfl | fail "k_enter: no rule for these arguments"); (case kB => exact rfl); (case kD => decide +kernel); (case c2 => exact rfl); (case c3 => exact rfl); (case c4 => exact rfl); k_whole; walk_at "mine cells")
  (repeat' ((fail_if_success (with_reducible show wpAny _ _ (exec (Stmt.While _ _ _ _) _) _ _ _)); (fail_if_success (with_reducible show WhileStep2 _ _ _ _ _ _ _ _)); (fail_if_success (with_reducible show wpAny _ _ (pyIter _) _ _ _)); (fail_if_success (with_reducible show InvEndG _ _ _ _ _ _)); (fail_if_success (with_reducible show CEnd _ _ _ _ _ _ _ _ _ _ _ _)); (fail_if_success (with_reducible show wpAny _ _ (exec (Stmt.Assign _ (Expr.ListComp _ _ _ _) _) _) _ _ _)); (fail_if_success (with_reducible show wpAny _ _ (call (Value.type _) _ _) _ _ _)); (fail_if_success (with_reducible show wpAny _ _ (call (Value.builtin "sorted") _ _) _ _ _)); (first | (k_unfold; (try dsimp only)) | (k_end; wrow_close) | ((first | with_reducible k_extra "subscriptTail" | walk1); (all_goals try dsimp only)) | (dsimp only; (first | with_reducible k_extra "subscriptTail" | walk1)) | (leave1; walk_say "STEP leave1"; try dsimp only) | fail "no step")))
  refine asg_comp (by with_unfolding_all rfl) (by with_unfolding_all rfl) (by rfl) (by decide) ?_
  (repeat' ((fail_if_success (with_reducible show wpAny _ _ (exec (Stmt.While _ _ _ _) _) _ _ _)); (fail_if_success (with_reducible show WhileStep2 _ _ _ _ _ _ _ _)); (fail_if_success (with_reducible show wpAny _ _ (pyIter _) _ _ _)); (fail_if_success (with_reducible show InvEndG _ _ _ _ _ _)); (fail_if_success (with_reducible show CEnd _ _ _ _ _ _ _ _ _ _ _ _)); (fail_if_success (with_reducible show wpAny _ _ (exec (Stmt.Assign _ (Expr.ListComp _ _ _ _) _) _) _ _ _)); (fail_if_success (with_reducible show wpAny _ _ (call (Value.type _) _ _) _ _ _)); (fail_if_success (with_reducible show wpAny _ _ (call (Value.builtin "sorted") _ _) _ _ _)); (first | (k_unfold; (try dsimp only)) | (k_end; wrow_close) | ((first | with_reducible k_extra "subscriptTail" | walk1); (all_goals try dsimp only)) | (dsimp only; (first | with_reducible k_extra "subscriptTail" | walk1)) | (leave1; walk_say "STEP leave1"; try dsimp only) | fail "no step")))
  rename_i g' L' h1 tk1 FG F1 BG XG TG hlt o1 o2 d1 d2 N1
  replace d1 : o1.data = Data.cell none := d1
  replace d2 : o2.data = Data.cell (some (.str alt t2)) := d2
  have hwl : ws.length = modes.length := hI.length
  have hDs := ltN (Heap.lt_size (N1 _ (.tail _ (.tail _ (.head _)))).1)
  have hLs := ltN F1.ns.lt
  dsimp only at hDs hLs
  refine call_enumerate_list (PySem.IsL.isList (n := n) (N1 _ (.tail _ (.tail _ (.head _)))).1) ?_
  intro h2 he hit hsz2 hk2
  dsimp only at he hit hsz2 hk2 ⊢
  have fresh : ∀ a, h1.objs.size ≤ a → g'.get? a = none := fun a ha => by
    cases e : g'.get? a with
    | none => rfl
    | some o' => exact absurd (Heap.lt_size (F1.keep a o' e)) (Nat.not_lt.mpr ha)
  refine wpAny_pyIter_enum he ?_
  obtain ⟨J, hJ⟩ : ∃ J : Nat → List Value → List (Addr × Obj) → Prop, J = RtI ((L' + 1 + 1, o1) :: (L' + 1, o2) :: (D, listOf ws.toArray n) :: rest) (L' + 1 + 1) (rowsOf alt modes) := ⟨_, rfl⟩
  refine compT (k := D) (ok := listOf ws.toArray n) (P2 := fun i v0 v1 => ∃ t x, ws.toArray[i]? = some x ∧ v0 = .int i t ∧ v1 = x)
    J
    rfl (WalksT.enumerate rfl (h1.objs.size + 1) h1.objs.size D (Nat.succ_ne_self _) (Nat.ne_of_lt (Nat.lt_succ_of_lt hDs)) (Nat.ne_of_lt hDs) ws.toArray) (by rw [List.size_toArray]; (first | lia | omega)) (by intro b hb; simp at hb ⊢; rcases hb with h | h | h <;> simp [h]) ?_ ?_
    (by decide) (by rfl) (by rfl) (by rfl) (by decide) (not_mem2 (Nat.ne_of_lt (Nat.lt_succ_of_lt hLs)) (Nat.ne_of_lt hLs)) ?_ ?_ (ltN (by rw [hsz2]; (first | lia | omega))) ?_ (.inr (by rw [hJ]; rintro i ys nx ⟨tups, e, _, _⟩; exact e ▸ List.mem_append_right _ (.tail _ (.tail _ (.head _))))) ⟨⟨_, he⟩, hit, ?_⟩ (F1.keeps hk2) (fun p hp => ⟨hk2 _ _ (N1 p hp).1, (N1 p hp).2⟩) (by rw [hJ]; exact ⟨[], rfl, fun _ h => (nomatch h), RowsIn.nil⟩) ?_ ?_
  · rintro i h ⟨⟨old, q1⟩, ⟨o, q2, _⟩, _⟩ b hb
    rcases List.mem_cons.mp hb with rfl | hb
    · exact ⟨_, q1⟩
    · rw [List.mem_singleton.mp hb]
      exact ⟨_, q2⟩
  · rintro i vals ⟨t, x, q1, rfl⟩
    exact ⟨_, _, rfl, t, x, q1, rfl, rfl⟩
  · intro b hb
    refine fresh b ?_
    simp at hb
    rcases hb with rfl | rfl
    · exact Nat.le_succ _
    · exact Nat.le_refl _
  · intro p hp hb
    have := ltN (Heap.lt_size (N1 p hp).1)
    exact not_mem2 (Nat.ne_of_lt (Nat.lt_succ_of_lt this)) (Nat.ne_of_lt this) hb
  · intro b hb
    show b < h2.objs.size
    rw [hsz2]
    simp at hb
    rcases hb with rfl | rfl
    · exact Nat.lt_succ_self _
    · exact Nat.lt_succ_of_lt (Nat.lt_succ_self _)
  · exact (PySem.IsL.isList (n := n) (hk2 _ _ (N1 _ (.tail _ (.tail _ (.head _)))).1))
  · clear F1 N1
    rintro i v0 v1 C oC D9 ys nx own m₂ h3 tk3 E' hi ⟨t, x, hx, rfl, rfl⟩ hj hoff hns hm1 hm2 F3 hcd hCD N3
    rw [hJ] at hj
    obtain ⟨tups, rfl, htl, hR⟩ := hj
    rw [List.size_toArray] at hi
    have him : i < modes.length := by (first | lia | omega)
    obtain ⟨tm, hxm⟩ := hI.get i (modes[i]'him) (List.getElem?_eq_getElem him)
    have ex : v1 = .int (modes[i]'him) tm := by
      have : ws.toArray[i]? = ws[i]? := by simp
      rw [this, hxm] at hx
      exact (Option.some.inj hx).symm
    subst ex
    have hmd := hmo _ (List.getElem_mem him)
    generalize hmode : modes[i]'him = mode at *
    have hsub : ∀ p ∈ (L' + 1 + 1, o1) :: (L' + 1, o2) :: (D, listOf ws.toArray n) :: rest, p ∈ tups ++ ((L' + 1 + 1, o1) :: (L' + 1, o2) :: (D, listOf ws.toArray n) :: rest) := fun p hp => List.mem_append_right _ hp
    generalize hnx : tups ++ ((L' + 1 + 1, o1) :: (L' + 1, o2) :: (D, listOf ws.toArray n) :: rest) = nx at *
    have N4 : News g' L' h3 ((C, oC) :: (L' + 1 + 1, o1) :: (L' + 1, o2) :: (D9, LCg.lst ys) :: (nx ++ own)) := fun p hp => by
      rcases List.mem_cons.mp hp with rfl | hp
      · exact N3 _ (.head _)
      · rcases List.mem_cons.mp hp with rfl | hp
        · exact N3 _ (.tail _ (.tail _ (List.mem_append_left _ (hsub _ (.head _)))))
        · rcases List.mem_cons.mp hp with rfl | hp
          · exact N3 _ (.tail _ (.tail _ (List.mem_append_left _ (hsub _ (.tail _ (.head _))))))
          · exact N3 _ (.tail _ hp)
    clear N3
    (try ((with_reducible show wpAny _ _ _ _ _ _); k_fold))
    (repeat' ((fail_if_success (with_reducible show wpAny _ _ (exec (Stmt.While _ _ _ _) _) _ _ _)); (fail_if_success (with_reducible show WhileStep2 _ _ _ _ _ _ _ _)); (fail_if_success (with_reducible show wpAny _ _ (pyIter _) _ _ _)); (fail_if_success (with_reducible show InvEndG _ _ _ _ _ _)); (fail_if_success (with_reducible show CEnd _ _ _ _ _ _ _ _ _ _ _ _)); (fail_if_success (with_reducible show wpAny _ _ (exec (Stmt.Assign _ (Expr.ListComp _ _ _ _) _) _) _ _ _)); (fail_if_success (with_reducible show wpAny _ _ (call (Value.type _) _ _) _ _ _)); (fail_if_success (with_reducible show wpAny _ _ (call (Value.builtin "sorted") _ _) _ _ _)); (first | (k_unfold; (try dsimp only)) | (k_end; wrow_close) | ((first | with_reducible k_extra "subscriptTail" | walk1); (all_goals try dsimp only)) | (dsimp only; (first | with_reducible k_extra "subscriptTail" | walk1)) | (leave1; walk_say "STEP leave1"; try dsimp only) | fail "no step")))
    rename_i D' h5 F5 N5 hlt5
    obtain ⟨tA, tB, tC, N5⟩ : ∃ tA tB tC, News g' L' h5 ((D', tup3 ⟨writtenS alt mode, listingS mode, (i : Int)⟩ tA tB tC) :: (C, oC) :: (L' + 1 + 1, o1) :: (L' + 1, o2) :: (D9, LCg.lst ys) :: (nx ++ own)) := ⟨_, _, _, N5⟩
    subst hJ
    show CEnd _ _ _ _ _ _ _ _ _ _ _ _
    have hR2 : (rowsOf alt modes).take (i + 1) = (rowsOf alt modes).take i ++ [⟨writtenS alt mode, listingS mode, (i : Int)⟩] := by
      rw [List.take_add_one]
      congr 1
      unfold rowsOf
      rw [List.getElem?_map, List.getElem?_zipIdx, List.getElem?_eq_getElem him, hmode]
      simp
    refine ⟨_, _, _, (D', tup3 ⟨writtenS alt mode, listingS mode, (i : Int)⟩ tA tB tC) :: nx, rfl, F5, N5, .tail _ (.head _), .tail _ (.tail _ (.tail _ (.tail _ (.head _)))), fun p hp => .tail _ (.tail _ (.tail _ (.tail _ (.tail _ (List.mem_append_right _ hp))))), ?_, ?_, ?_, (D', tup3 ⟨writtenS alt mode, listingS mode, (i : Int)⟩ tA tB tC) :: tups, by rw [← hnx]; rfl, ?_, ?_⟩
    · intro p hp
      rcases List.mem_cons.mp hp with rfl | hp
      · exact .head _
      · exact .tail _ (.tail _ (.tail _ (.tail _ (.tail _ (List.mem_append_left _ hp)))))
    · intro p hp
      rcases List.mem_cons.mp hp with rfl | hp
      · exact ⟨Nat.ne_of_gt hlt5.1, Nat.ne_of_gt hlt5.2.2.2.1⟩
      · exact hcd p (List.mem_append_left _ hp)
    · intro p hp b hb
      rcases List.mem_cons.mp hb with rfl | hb
      · exact allLt_ne hlt5.2.2.2.2 p (List.mem_append_right _ hp)
      · exact hoff p hp b hb
    · intro p hp
      rcases List.mem_cons.mp hp with rfl | hp
      · exact hlt5.2.1
      · exact htl p hp
    · rw [hR2]
      exact (hR.mono fun p hp => .tail _ hp).snoc ⟨D', tA, tB, tC, rfl, .head _⟩
  · clear F1 N1
    rintro D9 C h3 tk3 m' ys nx F3 N3 hD9 hnC hC0 hCL hCD hnxC hj
    rw [hJ] at hj
    obtain ⟨tups, rfl, htl, hR⟩ := hj
    clear hJ J
    refine' post_asg ?pa ?pb ?pF ?pN ?p1 ?p2 ?p3 ?p4 ?p5 ?pf
    (case p1 => exact hnC)
    (case p2 => exact hC0)
    (case p3 => exact hCL)
    (case p4 => exact hCD)
    (case p5 => exact hnxC)
    (case pa => rfl)
    (case pb => rfl)
    (case pF => exact F3)
    (case pN => exact N3)
    clear F3 N3
    intro h4 tk4 F4 N4
    have hrl : (rowsOf alt modes).length = modes.length := by unfold rowsOf; simp
    rw [List.size_toArray, hwl, ← hrl, List.take_length] at hR
    have hnd := rowsOf_nodup alt modes
    dsimp only
    (try ((with_reducible show wpAny _ _ _ _ _ _); k_fold))
    (repeat' ((fail_if_success (with_reducible show wpAny _ _ (exec (Stmt.While _ _ _ _) _) _ _ _)); (fail_if_success (with_reducible show WhileStep2 _ _ _ _ _ _ _ _)); (fail_if_success (with_reducible show wpAny _ _ (pyIter _) _ _ _)); (fail_if_success (with_reducible show InvEndG _ _ _ _ _ _)); (fail_if_success (with_reducible show CEnd _ _ _ _ _ _ _ _ _ _ _ _)); (fail_if_success (with_reducible show wpAny _ _ (exec (Stmt.Assign _ (Expr.ListComp _ _ _ _) _) _) _ _ _)); (fail_if_success (with_reducible show wpAny _ _ (call (Value.type _) _ _) _ _ _)); (fail_if_success (with_reducible show wpAny _ _ (call (Value.builtin "sorted") _ _) _ _ _)); (first | (k_unfold; (try dsimp only)) | (k_end; wrow_close) | ((first | with_reducible k_extra "subscriptTail" | walk1); (all_goals try dsimp only)) | (dsimp only; (first | with_reducible k_extra "subscriptTail" | walk1)) | (leave1; walk_say "STEP leave1"; try dsimp only) | fail "no step")))
    refine wpAny_For ?_
    (try ((with_reducible show wpAny _ _ _ _ _ _); k_fold))
    (repeat' ((fail_if_success (with_reducible show wpAny _ _ (exec (Stmt.While _ _ _ _) _) _ _ _)); (fail_if_success (with_reducible show WhileStep2 _ _ _ _ _ _ _ _)); (fail_if_success (with_reducible show wpAny _ _ (pyIter _) _ _ _)); (fail_if_success (with_reducible show InvEndG _ _ _ _ _ _)); (fail_if_success (with_reducible show CEnd _ _ _ _ _ _ _ _ _ _ _ _)); (fail_if_success (with_reducible show wpAny _ _ (exec (Stmt.Assign _ (Expr.ListComp _ _ _ _) _) _) _ _ _)); (fail_if_success (with_reducible show wpAny _ _ (call (Value.type _) _ _) _ _ _)); (fail_if_success (with_reducible show wpAny _ _ (call (Value.builtin "sorted") _ _) _ _ _)); (first | (k_unfold; (try dsimp only)) | (k_end; wrow_close) | ((first | with_reducible k_extra "subscriptTail" | walk1); (all_goals try dsimp only)) | (dsimp only; (first | with_reducible k_extra "subscriptTail" | walk1)) | (leave1; walk_say "STEP leave1"; try dsimp only) | fail "no step")))
    rename_i Tl _ _ _ hltT _ F5 N5
    refine sorted_rows (D := D9) (vs := ys) (n := ys.length) (nw := tups) F5 N5 (.tail _ (.head _)) (fun q hq => .tail _ (.tail _ (List.mem_append_left _ hq))) hR (by (first | lia | omega)) (by (first | lia | omega)) hnd ?_
    clear F5
    intro S c h7 svs srows F6 N6 hltS hSR hperm hsrt
    dsimp only
    have hSl : svs.length = modes.length := by rw [hSR.1, hperm.length_eq, hrl]
    have hsl : srows.length = modes.length := by rw [hperm.length_eq, hrl]
    refine wpAny_pyIter_list (PySem.IsL.isList (n := c) (N6 _ (.head _)).1) ?_
    dsimp only
    have htT : ∀ p ∈ tups, p.1 ≠ Tl := fun p hp => allLt_ne hltT.2 p (List.mem_append_left _ hp)
    have hrT : ∀ p ∈ (D, listOf ws.toArray n) :: rest, p.1 ≠ Tl := fun p hp => allLt_ne hltT.2 p (List.mem_append_right _ (.tail _ (.tail _ hp)))
    have hcT := allLt_ne hltT.2 (L' + 1 + 1, o1) (List.mem_append_right _ (.head _))
    have haT := allLt_ne hltT.2 (L' + 1, o2) (List.mem_append_right _ (.tail _ (.head _)))
    have hSn : ∀ p ∈ (Tl, listOf #[] 0) :: (D9, LCg.lst ys) :: (tups ++ (L' + 1 + 1, o1) :: (L' + 1, o2) :: (D, listOf ws.toArray n) :: rest), p.1 ≠ S := fun p hp => Nat.ne_of_lt (hltS p hp)
    have hI7 : S < h7.objs.size := Heap.lt_size (N6 _ (.head _)).1
    have hbase : ∀ p ∈ (S, listOf svs.toArray c) :: (L' + 1, o2) :: (D, listOf ws.toArray n) :: (tups ++ rest), p.1 ≠ Tl ∧ p.1 ≠ L' + 1 + 1 := by
      intro p hp
      rcases List.mem_cons.mp hp with rfl | hp
      · exact ⟨(hSn _ (.head _)).symm, (hSn _ (.tail _ (.tail _ (List.mem_append_right _ (.head _))))).symm⟩
      · rcases List.mem_cons.mp hp with rfl | hp
        · exact ⟨haT, Nat.ne_of_lt (Nat.lt_succ_self _)⟩
        · rcases List.mem_cons.mp hp with rfl | hp
          · exact ⟨hrT _ (.head _), Nat.ne_of_lt (Nat.lt_succ_of_lt (Nat.lt_succ_of_lt hlt.1))⟩
          · rcases List.mem_append.mp hp with hp | hp
            · exact ⟨htT p hp, Nat.ne_of_gt (htl p hp)⟩
            · exact ⟨hrT p (.tail _ hp), Nat.ne_of_lt (Nat.lt_succ_of_lt (Nat.lt_succ_of_lt (allLt_lt hlt.2 p hp)))⟩
    have hbin : ∀ p ∈ (S, listOf svs.toArray c) :: (L' + 1, o2) :: (D, listOf ws.toArray n) :: (tups ++ rest), p ∈ (S, listOf svs.toArray c) :: (Tl, listOf #[] 0) :: (D9, LCg.lst ys) :: (tups ++ (L' + 1 + 1, o1) :: (L' + 1, o2) :: (D, listOf ws.toArray n) :: rest) := by
      intro p hp
      rcases List.mem_cons.mp hp with rfl | hp
      · exact .head _
      · refine .tail _ (.tail _ (.tail _ ?_))
        rcases List.mem_cons.mp hp with rfl | hp
        · exact List.mem_append_right _ (.tail _ (.head _))
        · rcases List.mem_cons.mp hp with rfl | hp
          · exact List.mem_append_right _ (.tail _ (.tail _ (.head _)))
          · rcases List.mem_append.mp hp with hp | hp
            · exact List.mem_append_left _ hp
            · exact List.mem_append_right _ (.tail _ (.tail _ (.tail _ hp)))
    generalize hb2 : (S, listOf svs.toArray c) :: (L' + 1, o2) :: (D, listOf ws.toArray n) :: (tups ++ rest) = base2 at *
    have hbS : (S, listOf svs.toArray c) ∈ base2 := hb2 ▸ .head _
    have hbA : (L' + 1, o2) ∈ base2 := hb2 ▸ .tail _ (.head _)
    have hbt : ∀ p ∈ tups, p ∈ base2 := fun p hp => hb2 ▸ .tail _ (.tail _ (.tail _ (List.mem_append_left _ hp)))
    have hbr : ∀ p ∈ (D, listOf ws.toArray n) :: rest, p ∈ base2 := fun p hp => by
      rw [← hb2]
      rcases List.mem_cons.mp hp with rfl | hp
      · exact .tail _ (.tail _ (.head _))
      · exact .tail _ (.tail _ (.tail _ (List.mem_append_right _ hp)))
    have fr7 : ∀ a, h7.objs.size ≤ a → g'.get? a = none := fun a ha => by
      cases e : g'.get? a with
      | none => rfl
      | some o' => exact absurd (Heap.lt_size (F6.keep a o' e)) (Nat.not_lt.mpr ha)
    have hin0 : ∀ p ∈ (Tl, listOf ([] : List Value).toArray 0) :: (L' + 1 + 1, o1) :: ([] ++ base2), p ∈ (S, listOf svs.toArray c) :: (Tl, listOf #[] 0) :: (D9, LCg.lst ys) :: (tups ++ (L' + 1 + 1, o1) :: (L' + 1, o2) :: (D, listOf ws.toArray n) :: rest) := by
      intro p hp
      rcases List.mem_cons.mp hp with rfl | hp
      · exact .tail _ (.head _)
      · rcases List.mem_cons.mp hp with rfl | hp
        · exact .tail _ (.tail _ (.tail _ (List.mem_append_right _ (.head _))))
        · exact hbin p hp
    obtain ⟨J, hJ⟩ : ∃ J : Nat → (Str → Option Value) → List (Addr × Obj) → Prop, J = RgI Tl (L' + 1 + 1) base2 srows := ⟨_, rfl⟩
    refine forG (k := S) (ok := listOf svs.toArray c) (news := (Tl, listOf ([] : List Value).toArray 0) :: (L' + 1 + 1, o1) :: ([] ++ base2))
      J
      (Walks.list rfl h7.objs.size S (Nat.ne_of_lt hI7) svs.toArray) (by intro b hb; simp at hb ⊢; exact hb) ?_ ?_ ?_ ?_ ?_ (.inr ?_) ⟨⟨_, Heap.get?_push_size _ rfl, rfl, rfl⟩, ?_⟩ (F6.push _) ?_ (by rw [hJ]; exact ⟨[], 0, o1, [], none, rfl, .nil, fun _ h => (nomatch h), d1, rfl⟩) ?_ ?_
    · rintro i h ⟨⟨o, q2, _⟩, _⟩ b hb
      rw [List.mem_singleton.mp hb]
      exact ⟨_, q2⟩
    · intro i v s' Q' _ _ hq
      exact wpAny_pure hq
    · intro hm
      exact Nat.lt_irrefl _ ((List.mem_singleton.mp hm) ▸ F6.ns.lt)
    · intro b hb
      rw [List.mem_singleton.mp hb]
      exact fr7 _ (Nat.le_refl _)
    · intro p hp hb
      exact Nat.lt_irrefl _ ((List.mem_singleton.mp hb) ▸ Heap.lt_size (N6 p (hin0 p hp)).1)
    · rw [hJ]
      rintro i m1 nx ⟨tvs, nt, oR, new, q, rfl, _, _, _, _⟩
      exact .tail _ (.tail _ (List.mem_append_right _ hbS))
    · exact (PySem.IsL.isList (n := c) (Heap.get?_push_of_some _ (N6 _ (.head _)).1))
    · exact fun p hp => ⟨Heap.get?_push_of_some _ (N6 p (hin0 p hp)).1, (N6 p (hin0 p hp)).2⟩
    · clear F6 N6 N5
      rintro i v m1 nx h8 tk8 own hi hv hoff hj F7 N7
      rw [hJ] at hj
      obtain ⟨tvs, nt, oR, new, q, rfl, hG, hnew, dR, q1⟩ := hj
      rw [List.size_toArray] at hi
      obtain ⟨a, t1, t3, t4, hva, hma⟩ := hSR.get (i := i) (by (first | lia | omega))
      have ev : v = .ref a := by
        have : svs.toArray[i]? = svs[i]? := by simp
        rw [this, hva] at hv
        exact (Option.some.inj hv).symm
      subst ev
      have N8 : News g' L' h8 ((Tl, listOf tvs.toArray nt) :: (L' + 1 + 1, oR) :: ((new ++ base2) ++ own)) := N7
      clear N7
      replace F7 := (Ov.nil F7).cons q1 |>.fr
      have hcT' : @Ne Nat Tl (L' + 1 + 1) := Ne.symm hcT
      have hoffT : ∀ p ∈ (new ++ base2) ++ own, p.1 ≠ Tl := by
        intro p hp
        rcases List.mem_append.mp hp with hp | hp
        · rcases List.mem_append.mp hp with hp | hp
          · exact (hnew p hp).1
          · exact (hbase p hp).1
        · exact hoff p hp _ (.head _)
      have hoffR : ∀ p ∈ (new ++ base2) ++ own, p.1 ≠ L' + 1 + 1 := by
        intro p hp
        rcases List.mem_append.mp hp with hp | hp
        · rcases List.mem_append.mp hp with hp | hp
          · exact (hnew p hp).2
          · exact (hbase p hp).2
        · exact hoff p hp _ (.tail _ (.head _))
      (try ((with_reducible show wpAny _ _ _ _ _ _); k_fold))
      (repeat' ((fail_if_success (with_reducible show wpAny _ _ (exec (Stmt.While _ _ _ _) _) _ _ _)); (fail_if_success (with_reducible show WhileStep2 _ _ _ _ _ _ _ _)); (fail_if_success (with_reducible show wpAny _ _ (pyIter _) _ _ _)); (fail_if_success (with_reducible show InvEndG _ _ _ _ _ _)); (fail_if_success (with_reducible show CEnd _ _ _ _ _ _ _ _ _ _ _ _)); (fail_if_success (with_reducible show wpAny _ _ (exec (Stmt.Assign _ (Expr.ListComp _ _ _ _) _) _) _ _ _)); (fail_if_success (with_reducible show wpAny _ _ (call (Value.type _) _ _) _ _ _)); (fail_if_success (with_reducible show wpAny _ _ (call (Value.builtin "sorted") _ _) _ _ _)); (first | (k_unfold; (try dsimp only)) | (k_end; wrow_close) | ((first | with_reducible k_extra "subscriptTail" | walk1); (all_goals try dsimp only)) | (dsimp only; (first | with_reducible k_extra "subscriptTail" | walk1)) | (leave1; walk_say "STEP leave1"; try dsimp only) | fail "no step")))
      rename_i h9 oR2 F8 N9 dR2
      refine asg_comp (by with_unfolding_all rfl) (by with_unfolding_all rfl) (by rfl) (by decide) ?_
      (try ((with_reducible show wpAny _ _ _ _ _ _); k_fold))
      (repeat' ((fail_if_success (with_reducible show wpAny _ _ (exec (Stmt.While _ _ _ _) _) _ _ _)); (fail_if_success (with_reducible show WhileStep2 _ _ _ _ _ _ _ _)); (fail_if_success (with_reducible show wpAny _ _ (pyIter _) _ _ _)); (fail_if_success (with_reducible show InvEndG _ _ _ _ _ _)); (fail_if_success (with_reducible show CEnd _ _ _ _ _ _ _ _ _ _ _ _)); (fail_if_success (with_reducible show wpAny _ _ (exec (Stmt.Assign _ (Expr.ListComp _ _ _ _) _) _) _ _ _)); (fail_if_success (with_reducible show wpAny _ _ (call (Value.type _) _ _) _ _ _)); (fail_if_success (with_reducible show wpAny _ _ (call (Value.builtin "sorted") _ _) _ _ _)); (first | (k_unfold; (try dsimp only)) | (k_end; wrow_close) | ((first | with_reducible k_extra "subscriptTail" | walk1); (all_goals try dsimp only)) | (dsimp only; (first | with_reducible k_extra "subscriptTail" | walk1)) | (leave1; walk_say "STEP leave1"; try dsimp only) | fail "no step")))
      have htl2 : (toldLoop (srows.take i) []).length = i := by rw [toldLoop_len]; simp; (first | lia | omega)
      have htvl : tvs.length = i := by rw [hG.1, htl2]
      generalize htold : toldLoop (srows.take i) [] = told at *
      generalize hLE : (new ++ base2) ++ own = LE at *
      have hNB : ∀ p ∈ new ++ base2, p ∈ LE := fun p hp => hLE ▸ List.mem_append_left _ hp
      have hI9 : Tl < h9.objs.size := Heap.lt_size (N9 _ (.head _)).1
      have fr9 : ∀ a, h9.objs.size ≤ a → g'.get? a = none := fun a ha => by
        cases e : g'.get? a with
        | none => rfl
        | some o' => exact absurd (Heap.lt_size (F8.keep a o' e)) (Nat.not_lt.mpr ha)
      refine wpAny_pyIter_list (PySem.IsL.isList (n := nt) (N9 _ (.head _)).1) ?_
      dsimp only
      obtain ⟨J3, hJ3⟩ : ∃ J3 : Nat → List Value → List (Addr × Obj) → Prop, J3 = RwI ((Tl, listOf tvs.toArray nt) :: (L' + 1 + 1, oR2) :: LE) told (srows.getD i row0) := ⟨_, rfl⟩
      refine compW (k := Tl) (ok := listOf tvs.toArray nt) (items := tvs.toArray) (n := i) (P2 := fun j v0 v1 => ∃ g ta b u1 u2 u3, told[j]? = some g ∧ v0 = .int g.1 ta ∧ v1 = .ref b ∧ (b, tup3 g.2 u1 u2 u3) ∈ LE)
        J3
        (news := (Tl, listOf tvs.toArray nt) :: (L' + 1 + 1, oR2) :: LE)
        rfl (by rw [List.size_toArray]; exact htvl) (by (first | lia | omega)) (Nat.ne_of_lt hI9) (by decide) (by rfl) (by rfl) (by rfl) (by decide) (Nat.ne_of_lt F8.ns.lt) (fr9 _ (Nat.le_refl _)) (fun p hp => Nat.ne_of_lt (Heap.lt_size (N9 p hp).1)) ?_ ?_ ?_ ?_ ?_
        ⟨⟨_, Heap.get?_push_size _ rfl, rfl, rfl⟩, (PySem.IsL.isList (n := nt) (Heap.get?_push_of_some _ (N9 _ (.head _)).1))⟩ (F8.push _) (fun p hp => ⟨Heap.get?_push_of_some _ (N9 p hp).1, (N9 p hp).2⟩) (by rw [hJ3]; exact ⟨rfl, .nil⟩) ?_ ?_
      · show Tl < (h9.push _).objs.size
        rw [Heap.size_push]
        exact Nat.lt_succ_of_lt hI9
      · show h9.objs.size < (h9.push _).objs.size
        rw [Heap.size_push]
        exact Nat.lt_succ_self _
      · rw [hJ3]
        rintro j ys nx ⟨rfl, _⟩
        exact .head _
      · rw [hJ3]
        rintro j ys nx ⟨_, hi2⟩
        rw [hi2.length]
        have : (aheadOf (told.take j) (srows.getD i row0)).length ≤ told.length := by
          unfold aheadOf
          rw [List.length_map]
          exact Nat.le_trans (List.length_filter_le _ _) (by rw [List.length_take]; exact Nat.min_le_right _ _)
        (first | lia | omega)
      · rw [hJ3]
        rintro j v ys nx hv2 ⟨rfl, _⟩
        have hj : j < tvs.length := by
          have := Array.getElem?_eq_some_iff.mp hv2
          simpa using this.1
        obtain ⟨b, ta, x, u1, u2, u3, hvb, hmb, hmx⟩ := hG.get (i := j) (by (first | lia | omega))
        have ev : v = .ref b := by
          have : tvs.toArray[j]? = tvs[j]? := by simp
          rw [this, hvb] at hv2
          exact (Option.some.inj hv2).symm
        subst ev
        refine ⟨b, _, _, rfl, .tail _ (.tail _ (hNB _ hmb)), told.getD j gone0, ta, x, u1, u2, u3, ?_, rfl, rfl, hNB _ hmx⟩
        rw [List.getD_eq_getElem?_getD, List.getElem?_eq_getElem (by (first | lia | omega))]
        rfl
      · clear F8 N9
        rintro j v0 v1 C oC A9 ys nx own2 m₂ h10 tk10 E' hj ⟨g, ta, b, u1, u2, u3, hgj, rfl, rfl, hgb⟩ hj3 hoff2 hns hm1 hm2 F9 hcd2 hCD2 N10
        rw [hJ3] at hj3
        obtain ⟨rfl, hia⟩ := hj3
        have N11 : News g' L' h10 ((C, oC) :: (L' + 1 + 1, oR2) :: (A9, LCg.lst ys) :: ((Tl, listOf tvs.toArray nt) :: (L' + 1 + 1, oR2) :: LE ++ own2)) := fun p hp => by
          rcases List.mem_cons.mp hp with rfl | hp
          · exact N10 _ (.head _)
          · rcases List.mem_cons.mp hp with rfl | hp
            · exact N10 _ (.tail _ (.tail _ (.tail _ (.head _))))
            · exact N10 _ (.tail _ hp)
        clear N10
        have hmG : (b, tup3 g.2 u1 u2 u3) ∈ (C, oC) :: (L' + 1 + 1, oR2) :: (A9, LCg.lst ys) :: ((Tl, listOf tvs.toArray nt) :: (L' + 1 + 1, oR2) :: LE ++ own2) := .tail _ (.tail _ (.tail _ (List.mem_append_left _ (.tail _ (.tail _ hgb)))))
        have hmA : (a, tup3 (srows.getD i row0) t1 t3 t4) ∈ (C, oC) :: (L' + 1 + 1, oR2) :: (A9, LCg.lst ys) :: ((Tl, listOf tvs.toArray nt) :: (L' + 1 + 1, oR2) :: LE ++ own2) := .tail _ (.tail _ (.tail _ (List.mem_append_left _ (.tail _ (.tail _ (hNB _ (List.mem_append_right _ (hbt _ hma))))))))
        refine wpAny_tests_one ?_
        (try ((with_reducible show wpAny _ _ _ _ _ _); k_fold))
        (repeat' ((fail_if_success (with_reducible show wpAny _ _ (exec (Stmt.While _ _ _ _) _) _ _ _)); (fail_if_success (with_reducible show WhileStep2 _ _ _ _ _ _ _ _)); (fail_if_success (with_reducible show wpAny _ _ (pyIter _) _ _ _)); (fail_if_success (with_reducible show InvEndG _ _ _ _ _ _)); (fail_if_success (with_reducible show CEnd _ _ _ _ _ _ _ _ _ _ _ _)); (fail_if_success (with_reducible show wpAny _ _ (exec (Stmt.Assign _ (Expr.ListComp _ _ _ _) _) _) _ _ _)); (fail_if_success (with_reducible show wpAny _ _ (call (Value.type _) _ _) _ _ _)); (fail_if_success (with_reducible show wpAny _ _ (call (Value.builtin "sorted") _ _) _ _ _)); (first | (k_unfold; (try dsimp only)) | (k_end; wrow_close) | ((first | with_reducible k_extra "subscriptTail" | walk1); (all_goals try dsimp only)) | (dsimp only; (first | with_reducible k_extra "subscriptTail" | walk1)) | (leave1; walk_say "STEP leave1"; try dsimp only) | fail "no step")))
        · rename_i hc
          subst hJ3
          refine ⟨_, _, _, (Tl, listOf tvs.toArray nt) :: (L' + 1 + 1, oR2) :: LE, rfl, F9, N11, .head _, .tail _ (.tail _ (.head _)), fun p hp => .tail _ (.tail _ (.tail _ (List.mem_append_right _ hp))), fun p hp => .tail _ (.tail _ (.tail _ (List.mem_append_left _ hp))), fun p hp => hcd2 p (List.mem_append_left _ hp), hoff2, rfl, ?_⟩
          have e : strLt (srows.getD i row0).l g.2.l = true := decide_eq_true hc
          rw [ahead_skip hgj e]
          exact hia
        · rename_i hc
          subst hJ3
          refine ⟨_, _, _, (Tl, listOf tvs.toArray nt) :: (L' + 1 + 1, oR2) :: LE, rfl, F9, N11, .head _, .tail _ (.tail _ (.head _)), fun p hp => .tail _ (.tail _ (.tail _ (List.mem_append_right _ hp))), fun p hp => .tail _ (.tail _ (.tail _ (List.mem_append_left _ hp))), fun p hp => hcd2 p (List.mem_append_left _ hp), hoff2, rfl, ?_⟩
          have e : strLt (srows.getD i row0).l g.2.l = false := decide_eq_false hc
          rw [ahead_keep hgj e]
          exact ksk_snoc hia
      · clear F8 N9
        rintro A9 C h10 tk10 m' ys nx F9 N9 hA9 hnC hC0 hCL hCD hnxC hj3
        rw [hJ3] at hj3
        obtain ⟨rfl, hia⟩ := hj3
        clear hJ3 J3
        refine' post_asg ?zpa ?zpb ?zpF ?zpN ?zp1 ?zp2 ?zp3 ?zp4 ?zp5 ?zpf
        (case zp1 => exact hnC)
        (case zp2 => exact hC0)
        (case zp3 => exact hCL)
        (case zp4 => exact hCD)
        (case zp5 => exact hnxC)
        (case zpa => rfl)
        (case zpb => rfl)
        (case zpF => exact F9)
        (case zpN => exact N9)
        clear F9 N9
        intro h11 tk11 F10 N10
        dsimp only
        (try ((with_reducible show wpAny _ _ _ _ _ _); k_fold))
        (repeat' ((fail_if_success (with_reducible show wpAny _ _ (exec (Stmt.While _ _ _ _) _) _ _ _)); (fail_if_success (with_reducible show WhileStep2 _ _ _ _ _ _ _ _)); (fail_if_success (with_reducible show wpAny _ _ (pyIter _) _ _ _)); (fail_if_success (with_reducible show InvEndG _ _ _ _ _ _)); (fail_if_success (with_reducible show CEnd _ _ _ _ _ _ _ _ _ _ _ _)); (fail_if_success (with_reducible show wpAny _ _ (exec (Stmt.Assign _ (Expr.ListComp _ _ _ _) _) _) _ _ _)); (fail_if_success (with_reducible show wpAny _ _ (call (Value.type _) _ _) _ _ _)); (fail_if_success (with_reducible show wpAny _ _ (call (Value.builtin "sorted") _ _) _ _ _)); (first | (k_unfold; (try dsimp only)) | (k_end; wrow_close) | ((first | with_reducible k_extra "subscriptTail" | walk1); (all_goals try dsimp only)) | (dsimp only; (first | with_reducible k_extra "subscriptTail" | walk1)) | (leave1; walk_say "STEP leave1"; try dsimp only) | fail "no step")))
        rename_i ll h12 F11 N11 hll
        refine add_lists_ints F11 N11 (PySem.IsL.isList (n := ys.length) (N11 _ (.tail _ (.head _))).1) (ws := [.int 0 (tk11 + 1)]) (PySem.IsL.isList (n := 0) (N11 _ (.head _)).1) hia (.cons _ _ .nil) ?_ ?_
        rotate_left
        · show _ ≤ sizeLine
          rw [sizeLine_eq, List.length_singleton]
          have : (aheadOf (told.take i) (srows.getD i row0)).length ≤ told.length := by
            unfold aheadOf
            rw [List.length_map]
            exact Nat.le_trans (List.length_filter_le _ _) (by rw [List.length_take]; exact Nat.min_le_right _ _)
          (first | lia | omega)
        clear F11
        intro h13 F12 N12 hiB
        have hI12 : ∀ p ∈ (ll, listOf #[Value.int 0 (tk11 + 1)] 0) :: (A9, LCg.lst ys) :: (Tl, listOf tvs.toArray nt) :: (L' + 1 + 1, oR2) :: LE, @LT.lt Nat _ p.1 h12.objs.size := fun p hp => Heap.lt_size (N11 p hp).1
        clear N11
        generalize h12.objs.size = l2 at *
        (try ((with_reducible show wpAny _ _ _ _ _ _); k_fold))
        (repeat' ((fail_if_success (with_reducible show wpAny _ _ (exec (Stmt.While _ _ _ _) _) _ _ _)); (fail_if_success (with_reducible show WhileStep2 _ _ _ _ _ _ _ _)); (fail_if_success (with_reducible show wpAny _ _ (pyIter _) _ _ _)); (fail_if_success (with_reducible show InvEndG _ _ _ _ _ _)); (fail_if_success (with_reducible show CEnd _ _ _ _ _ _ _ _ _ _ _ _)); (fail_if_success (with_reducible show wpAny _ _ (exec (Stmt.Assign _ (Expr.ListComp _ _ _ _) _) _) _ _ _)); (fail_if_success (with_reducible show wpAny _ _ (call (Value.type _) _ _) _ _ _)); (fail_if_success (with_reducible show wpAny _ _ (call (Value.builtin "sorted") _ _) _ _ _)); (first | (k_unfold; (try dsimp only)) | (k_end; wrow_close) | ((first | with_reducible k_extra "subscriptTail" | walk1); (all_goals try dsimp only)) | (dsimp only; (first | with_reducible k_extra "subscriptTail" | walk1)) | (leave1; walk_say "STEP leave1"; try dsimp only) | fail "no step")))
        rename_i M _ tM hM1 hM2 G h14 F13 N13 hlG
        have hMe := mx_uniq hM1 hM2
        rw [List.take_of_length_le (by (first | lia | omega))] at hMe
        have N14 : News g' L' h14 ((Tl, listOf tvs.toArray nt) :: (G, tupO [.int (1 + M) tM, .ref a]) :: (L' + 1 + 1, oR2) :: LE) := fun p hp => by
          rcases List.mem_cons.mp hp with rfl | hp
          · exact N13 _ (.tail _ (.tail _ (.tail _ (.tail _ (.head _)))))
          · rcases List.mem_cons.mp hp with rfl | hp
            · exact N13 _ (.head _)
            · exact N13 _ (.tail _ (.tail _ (.tail _ (.tail _ (.tail _ hp)))))
        clear N13
        refine app_any (D := Tl) (vs := tvs) (n := nt) F13 N14 (.head ?_) (by (first | lia | omega)) ?_
        · intro p hp
          rcases List.mem_cons.mp hp with rfl | hp
          · exact Nat.ne_of_gt hlG.2.2.2.1
          · rcases List.mem_cons.mp hp with rfl | hp
            · exact hcT
            · exact hoffT p hp
        clear F13 N14
        intro h15 F14 N15
        (try ((with_reducible show wpAny _ _ _ _ _ _); k_fold))
        (repeat' ((fail_if_success (with_reducible show wpAny _ _ (exec (Stmt.While _ _ _ _) _) _ _ _)); (fail_if_success (with_reducible show WhileStep2 _ _ _ _ _ _ _ _)); (fail_if_success (with_reducible show wpAny _ _ (pyIter _) _ _ _)); (fail_if_success (with_reducible show InvEndG _ _ _ _ _ _)); (fail_if_success (with_reducible show CEnd _ _ _ _ _ _ _ _ _ _ _ _)); (fail_if_success (with_reducible show wpAny _ _ (exec (Stmt.Assign _ (Expr.ListComp _ _ _ _) _) _) _ _ _)); (fail_if_success (with_reducible show wpAny _ _ (call (Value.type _) _ _) _ _ _)); (fail_if_success (with_reducible show wpAny _ _ (call (Value.builtin "sorted") _ _) _ _ _)); (first | (k_unfold; (try dsimp only)) | (k_end; wrow_close) | ((first | with_reducible k_extra "subscriptTail" | walk1); (all_goals try dsimp only)) | (dsimp only; (first | with_reducible k_extra "subscriptTail" | walk1)) | (leave1; walk_say "STEP leave1"; try dsimp only) | fail "no step")))
        try dsimp only at F14 N15 ⊢
        subst hLE
        subst hJ
        refine InvEndG.intro F14 N15 (nx := (Tl, listOf (tvs ++ [Value.ref G]).toArray (nt + 1)) :: (L' + 1 + 1, oR2) :: (((G, tupO [.int (1 + M) tM, .ref a]) :: new) ++ base2)) ⟨tvs ++ [Value.ref G], nt + 1, oR2, (G, tupO [.int (1 + M) tM, .ref a]) :: new, _, rfl, ?_, ?_, dR2, rfl⟩ ?_ ?_ ?_
        · have et : srows.take (i + 1) = srows.take i ++ [srows.getD i row0] := by
            rw [List.take_add_one, List.getElem?_eq_getElem (by (first | lia | omega)), List.getD_eq_getElem?_getD, List.getElem?_eq_getElem (by (first | lia | omega))]
            rfl
          rw [et, toldLoop_snoc, htold, ← hMe]
          exact (hG.mono fun p hp => .tail _ hp).snoc ⟨G, tM, a, t1, t3, t4, rfl, .head _, .tail _ (List.mem_append_right _ (hbt _ hma))⟩
        · intro p hp
          rcases List.mem_cons.mp hp with rfl | hp
          · exact ⟨Nat.ne_of_gt hlG.2.2.2.1, Nat.ne_of_gt hlG.2.2.2.2.1⟩
          · exact hnew p hp
        · intro p hp b hb
          rcases List.mem_cons.mp hb with rfl | hb
          · exact hoff p hp _ (.head _)
          · rcases List.mem_cons.mp hb with rfl | hb
            · exact hoff p hp _ (.tail _ (.head _))
            · rcases List.mem_cons.mp hb with rfl | hb
              · exact allLt_ne hlG.2.2.2.2.2 p (List.mem_append_right _ hp)
              · exact hoff p hp b (.tail _ (.tail _ hb))
        · intro p hp
          rcases List.mem_cons.mp hp with rfl | hp
          · exact .head _
          · rcases List.mem_cons.mp hp with rfl | hp
            · exact .tail _ (.tail _ (.head _))
            · rcases List.mem_cons.mp hp with rfl | hp
              · exact .tail _ (.head _)
              · exact .tail _ (.tail _ (.tail _ (List.mem_append_left _ hp)))
        · exact fun p hp => .tail _ (.tail _ (.tail _ (List.mem_append_right _ hp)))
    · clear F6 N6 N5
      rintro m1 nx h8 tk8 hj F7 N7
      rw [hJ] at hj
      obtain ⟨tvs, nt, oR, new, q, rfl, hG, hnew, dR, q1⟩ := hj
      clear hJ J
      rw [List.size_toArray, hSl, ← hsl, List.take_length] at hG
      replace F7 := (Ov.nil F7).cons q1 |>.fr
      (try ((with_reducible show wpAny _ _ _ _ _ _); k_fold))
      (repeat' ((fail_if_success (with_reducible show wpAny _ _ (exec (Stmt.While _ _ _ _) _) _ _ _)); (fail_if_success (with_reducible show WhileStep2 _ _ _ _ _ _ _ _)); (fail_if_success (with_reducible show wpAny _ _ (pyIter _) _ _ _)); (fail_if_success (with_reducible show InvEndG _ _ _ _ _ _)); (fail_if_success (with_reducible show CEnd _ _ _ _ _ _ _ _ _ _ _ _)); (fail_if_success (with_reducible show wpAny _ _ (exec (Stmt.Assign _ (Expr.ListComp _ _ _ _) _) _) _ _ _)); (fail_if_success (with_reducible show wpAny _ _ (call (Value.type _) _ _) _ _ _)); (fail_if_success (with_reducible show wpAny _ _ (call (Value.builtin "sorted") _ _) _ _ _)); (first | (k_unfold; (try dsimp only)) | (k_end; wrow_close) | ((first | with_reducible k_extra "subscriptTail" | walk1); (all_goals try dsimp only)) | (dsimp only; (first | with_reducible k_extra "subscriptTail" | walk1)) | (leave1; walk_say "STEP leave1"; try dsimp only) | fail "no step")))
      have hTl : (toldLoop srows []).length = modes.length := by rw [toldLoop_len]; simp; exact hsl
      have hTn : (toldLoop srows []).Nodup := by
        have e : (toldLoop srows []).map (·.2) = srows := by rw [toldLoop_snd]; rfl
        have e2 : ((toldLoop srows []).map (·.2)).Nodup := by rw [e]; exact hperm.nodup_iff.mpr hnd
        exact List.Pairwise.imp (fun {a b} hne hab => hne (congrArg (·.2) hab)) (List.pairwise_map.mp e2)
      refine sorted_gone (D := Tl) (vs := tvs) (n := nt) (nw := new ++ base2) F7 N7 (.head _) (fun q hq => .tail _ (.tail _ hq)) hG (by (first | lia | omega)) (by (first | lia | omega)) hTn (show (10 : Nat) + 2 < cLine by decide) ?_
      clear F7
      intro G c9 h9 gvs Z F8 N8 hltG hGZ hZp hZo
      clear N7
      (try ((with_reducible show wpAny _ _ _ _ _ _); k_fold))
      (repeat' ((fail_if_success (with_reducible show wpAny _ _ (exec (Stmt.While _ _ _ _) _) _ _ _)); (fail_if_success (with_reducible show WhileStep2 _ _ _ _ _ _ _ _)); (fail_if_success (with_reducible show wpAny _ _ (pyIter _) _ _ _)); (fail_if_success (with_reducible show InvEndG _ _ _ _ _ _)); (fail_if_success (with_reducible show CEnd _ _ _ _ _ _ _ _ _ _ _ _)); (fail_if_success (with_reducible show wpAny _ _ (exec (Stmt.Assign _ (Expr.ListComp _ _ _ _) _) _) _ _ _)); (fail_if_success (with_reducible show wpAny _ _ (call (Value.type _) _ _) _ _ _)); (fail_if_success (with_reducible show wpAny _ _ (call (Value.builtin "sorted") _ _) _ _ _)); (first | (k_unfold; (try dsimp only)) | (k_end; wrow_close) | ((first | with_reducible k_extra "subscriptTail" | walk1); (all_goals try dsimp only)) | (dsimp only; (first | with_reducible k_extra "subscriptTail" | walk1)) | (leave1; walk_say "STEP leave1"; try dsimp only) | fail "no step")))
      rename_i F9 N9 _ _
      exact h _ _ _ _ _ _ _ _ F9 N9 (fun p hp => .tail _ (.tail _ (List.mem_append_right _ (hbr p hp)))) (hGZ.mono fun p hp => .tail _ (.tail _ hp)) hperm hsrt hZp hZo
end HGx
section HNx
set_option maxRecDepth 100000
set_option maxHeartbeats 4000000
section
variable {prog : Program} {w : World} {A : Around} {E : Value → Shared → Prop} {s : Shared} {env : Env} {h₀ : Heap}
theorem go_tuple {elts : List Expr} {x1} {pos : Pos} {I l T : Addr} {i : Nat} {Q : Unit → Shared → Prop} (hit : s.heap.IsTupleIter I l i) (hQ : Q () s) :
    wpAny (model prog w) A (letOwnedTupleGo (.Tuple elts x1 pos) (.ref I) (.ref T)) Q E s := by
  obtain ⟨o, ho, hc, hd⟩ := hit
  unfold letOwnedTupleGo
  refine wpAny_bind (wpAny_load ho ?_)
  rw [hc, hd]
  show wpAny _ A (if (["enumerate", "zip", "dict_itemiterator", "dict_reverseitemiterator", "odict_iterator", "itertools.zip_longest", "itertools.pairwise"].contains "tuple_iterator" &&
      (#[.ref l, .int i 0] : Array Value)[0]? == some (rawInt T)) = true then _ else _) Q E s
  rw [if_neg (by
    intro h
    rw [show (["enumerate", "zip", "dict_itemiterator", "dict_reverseitemiterator", "odict_iterator", "itertools.zip_longest", "itertools.pairwise"].contains "tuple_iterator") = false from by decide, Bool.false_and] at h
    cases h)]
  exact wpAny_pure hQ
theorem asg_pair {xi xc : Str} {pk pv pt : Pos} {x1 : Nat} {T : Addr} {v0 v1 : Value} {m : Str → Option Value} {news : List (Addr × Obj)} {Q : Unit → Shared → Prop}
    (hh : A.handled = none) (F : Fr h₀ env.locals s.heap m) (N : News h₀ env.locals s.heap news) (ht : s.heap.IsTuple T #[v0, v1])
    (hxi : env.kindOf xi = some .local) (hxc : env.kindOf xc = some .local)
    (hp : (env.scope.kind == .class || (env.scope.kind == .module && env.locals != env.globals)) = false)
    (h : ∀ h' tk, Fr h₀ env.locals h' (fun y => if y = xc then some v1 else if y = xi then some v0 else m y) → News h₀ env.locals h' news → Q () { s with heap := h', toks := tk }) :
    wpAny (model prog w) A (assign (.Tuple [.Name xi pk, .Name xc pv] x1 pt) env (.ref T)) Q E s := by
  refine wpAny_assign_Tuple hh ht rfl rfl fun h₃ hx₃ => ?_
  replace hx₃ : Heap.ExtBut s.heap.objs.size s.heap h₃ := hx₃
  have up₃ : ∀ b o, s.heap.get? b = some o → h₃.get? b = some o := fun b o x => hx₃ b o (Nat.ne_of_lt (Heap.lt_size x)) x
  have F₃ := F.keeps up₃
  have N₃ : News h₀ env.locals h₃ news := fun p hp => ⟨up₃ _ _ (N p hp).1, (N p hp).2⟩
  show wpAny _ A (do holding [v1] (assign (.Name xi pk) env v0); do holding [] (assign (.Name xc pv) env v1); pure ()) _ _ _
  refine wpAny_bind (wpAny_holding (wpAny_assign_Name (wpAny_storeName_local hxi F₃.ns (fun h₄ hn₄ hs₄ => ?_) hp)))
  replace hs₄ : Heap.SameBut env.locals h₃ h₄ := hs₄
  have F₄ := F₃.set hn₄ hs₄
  refine wpAny_bind (wpAny_holding (wpAny_assign_Name (wpAny_storeName_local hxc F₄.ns (fun h₅ hn₅ hs₅ => wpAny_pure ?_) hp)))
  replace hs₅ : Heap.SameBut env.locals h₄ h₅ := hs₅
  exact h h₅ _ (F₄.set hn₅ hs₅) ((N₃.set hs₄).set hs₅)
theorem type_bytes {b : Array UInt8} {t : Tok} {Q : Value → Shared → Prop} (h : Q (.type "bytes") s) : wpAny (model prog w) A (call (.type "type") [.bytes b t]) Q E s :=
  call_type_of (typeIs_bytes s b t) (by decide +kernel) h
theorem type_bool {b : Bool} {Q : Value → Shared → Prop} (h : Q (.type "bool") s) : wpAny (model prog w) A (call (.type "type") [.bool b]) Q E s :=
  call_type_of (PySem.typeIs_bool s b) (by decide +kernel) h
end
end HNx
section HUx
set_option maxRecDepth 100000
set_option maxHeartbeats 4000000
noncomputable def tab : Nat → List (Int × Str)
  | 0 => [(40960, Str.ofString "l"), (49152, Str.ofString "s"), (32768, Str.ofString "-"), (24576, Str.ofString "b"), (16384, Str.ofString "d"), (8192, Str.ofString "c"), (4096, Str.ofString "p")]
  | 1 => [(256, Str.ofString "r")]
  | 2 => [(128, Str.ofString "w")]
  | 3 => [(2112, Str.ofString "s"), (2048, Str.ofString "S"), (64, Str.ofString "x")]
  | 4 => [(32, Str.ofString "r")]
  | 5 => [(16, Str.ofString "w")]
  | 6 => [(1032, Str.ofString "s"), (1024, Str.ofString "S"), (8, Str.ofString "x")]
  | 7 => [(4, Str.ofString "r")]
  | 8 => [(2, Str.ofString "w")]
  | _ => [(513, Str.ofString "t"), (512, Str.ofString "T"), (1, Str.ofString "x")]
noncomputable abbrev hit (i : Nat) (mode b : Int) : Prop := if i = 0 then Builtin.bitAnd mode 61440 = b else Builtin.bitAnd mode b = b
noncomputable def pick (i : Nat) (mode : Int) : List (Int × Str) → Str
  | [] => if i = 0 then Str.ofString "?" else Str.ofString "-"
  | (b, c) :: r => if hit i mode b then c else pick i mode r
noncomputable def fmRows (mode : Int) : Nat → List Str
  | 0 => []
  | i + 1 => fmRows mode i ++ [pick i mode (tab i)]
theorem fmRows_len (mode : Int) : ∀ i, (fmRows mode i).length = i
  | 0 => rfl
  | i + 1 => by rw [fmRows, List.length_append, fmRows_len mode i]; rfl
theorem land_iff (n c : Nat) : n &&& c = c ↔ ∀ i, c.testBit i = true → n.testBit i = true := by
  constructor
  · intro h i hc
    have := congrArg (fun z => Nat.testBit z i) h
    simp only [Nat.testBit_and, hc, Bool.and_true] at this
    exact this
  · intro h
    apply Nat.eq_of_testBit_eq
    intro i
    rw [Nat.testBit_and]
    cases hc : c.testBit i with
    | false => simp
    | true => simp [h i hc]
theorem bit1 (n k : Nat) : n &&& 2 ^ k = 2 ^ k ↔ n / 2 ^ k % 2 = 1 := by
  rw [land_iff]
  have e : n / 2 ^ k % 2 = 1 ↔ n.testBit k = true := by rw [Nat.testBit_eq_decide_div_mod_eq]; simp
  rw [e]
  constructor
  · intro h
    exact h k (by simp)
  · intro h i hi
    rw [Nat.testBit_two_pow] at hi
    simp at hi
    exact hi ▸ h
theorem bit2 (n a b : Nat) : n &&& (2 ^ a ||| 2 ^ b) = (2 ^ a ||| 2 ^ b) ↔ n / 2 ^ a % 2 = 1 ∧ n / 2 ^ b % 2 = 1 := by
  have e (k : Nat) : n / 2 ^ k % 2 = 1 ↔ n.testBit k = true := by rw [Nat.testBit_eq_decide_div_mod_eq]; simp
  rw [land_iff, e, e]
  constructor
  · intro h
    exact ⟨h a (by simp), h b (by simp)⟩
  · rintro ⟨h1, h2⟩ i hi
    rw [Nat.testBit_or, Nat.testBit_two_pow, Nat.testBit_two_pow] at hi
    simp at hi
    rcases hi with rfl | rfl
    · exact h1
    · exact h2
theorem top4 (n : Nat) (hn : n < 65536) : n &&& 61440 = n / 4096 * 4096 := by
  apply Nat.eq_of_testBit_eq
  intro i
  have e : (61440 : Nat) = 15 * 2 ^ 12 := by decide
  have e2 : n / 4096 * 4096 = (n >>> 12) * 2 ^ 12 := by rw [Nat.shiftRight_eq_div_pow]
  rw [e2, Nat.testBit_and, e, Nat.testBit_mul_two_pow, Nat.testBit_mul_two_pow, Nat.testBit_shiftRight]
  by_cases h : 12 ≤ i
  · have e3 : 12 + (i - 12) = i := by (first | lia | omega)
    rw [e3]
    by_cases h2 : i < 16
    · have : Nat.testBit 15 (i - 12) = true := by
        rcases (by (first | lia | omega) : i = 12 ∨ i = 13 ∨ i = 14 ∨ i = 15) with rfl | rfl | rfl | rfl <;> rfl
      simp [this, h]
    · have : n.testBit i = false := Nat.testBit_lt_two_pow (Nat.lt_of_lt_of_le hn (by
        have := Nat.pow_le_pow_right (n := 2) (by decide) (show 16 ≤ i by (first | lia | omega))
        simpa using this))
      simp [this]
  · simp [h]
theorem ib1 {mode : Int} (h0 : 0 ≤ mode) (k : Nat) (c : Int) (hc : c = ((2 ^ k : Nat) : Int)) : Builtin.bitAnd mode c = c ↔ mode / c % 2 = 1 := by
  obtain ⟨n, rfl⟩ := Int.eq_ofNat_of_zero_le h0
  subst hc
  rw [bitAnd_pp h0 (Int.natCast_nonneg _)]
  simp only [Int.toNat_natCast]
  exact Int.ofNat_inj.trans ((bit1 n k).trans Int.ofNat_inj.symm)
theorem ib2 {mode : Int} (h0 : 0 ≤ mode) (a b : Nat) (c : Int) (hc : c = ((2 ^ a ||| 2 ^ b : Nat) : Int)) : Builtin.bitAnd mode c = c ↔ mode / ((2 ^ a : Nat) : Int) % 2 = 1 ∧ mode / ((2 ^ b : Nat) : Int) % 2 = 1 := by
  obtain ⟨n, rfl⟩ := Int.eq_ofNat_of_zero_le h0
  subst hc
  rw [bitAnd_pp h0 (Int.natCast_nonneg _)]
  simp only [Int.toNat_natCast]
  exact Int.ofNat_inj.trans ((bit2 n a b).trans (and_congr Int.ofNat_inj.symm Int.ofNat_inj.symm))
theorem it4 {mode : Int} (h0 : 0 ≤ mode) (h1 : mode < 65536) : Builtin.bitAnd mode 61440 = mode / 4096 * 4096 := by
  obtain ⟨n, rfl⟩ := Int.eq_ofNat_of_zero_le h0
  rw [bitAnd_pp h0 (by decide)]
  have := top4 n (by (first | lia | omega))
  simp only [Int.toNat_natCast]
  have e : (61440 : Int).toNat = 61440 := rfl
  rw [e, this]
  (first | lia | omega)
noncomputable def pickE (e : Int) : List (Int × Str) → Str
  | [] => Str.ofString "?"
  | (b, c) :: r => if e = b then c else pickE e r
theorem pick_0 {mode e : Int} (h : Builtin.bitAnd mode 61440 = e) : ∀ ps, pick 0 mode ps = pickE e ps
  | [] => rfl
  | (b, c) :: r => by
    rw [pick, pickE, pick_0 h r, ← h]
    rfl
theorem row0_all : ∀ k : Nat, k < 16 → pickE ((k : Int) * 4096) (tab 0) = ch (cAt (Str.ofString "?pc?d?b?-?l?s???") (k : Int)) := by decide +kernel
theorem row_0 {mode : Int} (h0 : 0 ≤ mode) (h1 : mode < 65536) : pick 0 mode (tab 0) = ch (cAt (Str.ofString "?pc?d?b?-?l?s???") (mode / 4096)) := by
  rw [pick_0 (it4 h0 h1)]
  obtain ⟨k, e⟩ := Int.eq_ofNat_of_zero_le (Int.ediv_nonneg h0 (by decide : (0 : Int) ≤ 4096))
  rw [e]
  refine row0_all k ?_
  clear h0
  omega
theorem q4 (n : Nat) : (n : Int) % 8 / 4 = (n : Int) / 4 % 2 := congrArg Int.ofNat (Nat.mod_mul_right_div_self n 4 2)
theorem q2 (n : Nat) : (n : Int) % 8 / 2 % 2 = (n : Int) / 2 % 2 := congrArg Int.ofNat ((congrArg (· % 2) (Nat.mod_mul_right_div_self n 2 4)).trans (Nat.mod_mod_of_dvd _ (by decide)))
theorem g4 {m a c : Int} (h0 : 0 ≤ m) (ha : 0 ≤ a) (h : a * 4 = c) : m / a % 8 / 4 = m / c % 2 := by
  rw [← h, ← Int.ediv_ediv_of_nonneg ha]
  obtain ⟨n, e⟩ := Int.eq_ofNat_of_zero_le (Int.ediv_nonneg h0 ha)
  rw [e]
  exact q4 n
theorem g2 {m a c : Int} (h0 : 0 ≤ m) (ha : 0 ≤ a) (h : a * 2 = c) : m / a % 8 / 2 % 2 = m / c % 2 := by
  rw [← h, ← Int.ediv_ediv_of_nonneg ha]
  obtain ⟨n, e⟩ := Int.eq_ofNat_of_zero_le (Int.ediv_nonneg h0 ha)
  rw [e]
  exact q2 n
theorem g1 {m a c : Int} (h : a = c) : m / a % 8 % 2 = m / c % 2 := by
  rw [← h]
  exact Int.emod_emod_of_dvd _ (by decide)
theorem row_1 {mode : Int} (h0 : 0 ≤ mode) (i : Nat) (hi : i ≠ 0) (k : Nat) (c : Int) (hc : c = ((2 ^ k : Nat) : Int)) (x : Str) (d : Int) (hd : d = mode / c % 2) (y : Str) (hy : cAt y 1 = cAt x 0 ∧ x.length = 1) (hz : ch (cAt y 0) = Str.ofString "-") (hx : ch (cAt x 0) = x) :
    pick i mode [(c, x)] = ch (cAt y d) := by
  simp only [pick, hit, if_neg hi, ib1 h0 k c hc]
  rw [← hd]
  rcases (by (first | lia | omega) : d = 0 ∨ d = 1) with rfl | rfl
  · rw [if_neg (by decide), hz]
  · rw [if_pos rfl, hy.1, hx]
theorem row_3 {mode : Int} (h0 : 0 ≤ mode) (i : Nat) (hi : i ≠ 0) (a b : Nat) (ca cb cc : Int) (hca : ca = ((2 ^ a : Nat) : Int)) (hcb : cb = ((2 ^ b : Nat) : Int)) (hcc : cc = ((2 ^ a ||| 2 ^ b : Nat) : Int)) (s1 s2 s3 y : Str) (d e : Int) (hd : d = mode / ca % 2) (he : e = mode / cb % 2)
    (y0 : ch (cAt y 0) = Str.ofString "-") (y1 : ch (cAt y 1) = s3) (y2 : ch (cAt y 2) = s2) (y3 : ch (cAt y 3) = s1) :
    pick i mode [(cc, s1), (ca, s2), (cb, s3)] = ch (cAt y (e + 2 * d)) := by
  simp only [pick, hit, if_neg hi, ib1 h0 a ca hca, ib1 h0 b cb hcb, ib2 h0 a b cc hcc]
  rw [← hca, ← hcb, ← hd, ← he]
  rcases (by (first | lia | omega) : d = 0 ∨ d = 1) with rfl | rfl <;> rcases (by (first | lia | omega) : e = 0 ∨ e = 1) with rfl | rfl
  · simp; exact y0.symm
  · simp; exact y1.symm
  · simp; exact y2.symm
  · simp; exact y3.symm
theorem join10 (a b c d e f g h i j : Nat) : Txt.join (Str.ofString "") [ch a, ch b, ch c, ch d, ch e, ch f, ch g, ch h, ch i, ch j] = (((((ch a ++ (ch b ++ ch c)) ++ ch d) ++ (ch e ++ ch f)) ++ ch g) ++ (ch h ++ ch i)) ++ ch j := by
  kernel_rfl
theorem fm_listing {mode : Int} (h0 : 0 ≤ mode) (h1 : mode < 65536) : Txt.join (Str.ofString "") (fmRows mode 10) = listingS mode := by
  have r1 := row_1 h0 1 (by decide) 8 256 rfl (Str.ofString "r") (mode / 8 ^ (2 - 0) % 8 / 4) (g4 h0 (by decide) (by decide)) (Str.ofString "-r") (by decide +kernel) (by decide +kernel) (by decide +kernel)
  have r2 := row_1 h0 2 (by decide) 7 128 rfl (Str.ofString "w") (mode / 8 ^ (2 - 0) % 8 / 2 % 2) (g2 h0 (by decide) (by decide)) (Str.ofString "-w") (by decide +kernel) (by decide +kernel) (by decide +kernel)
  have r3 := row_3 h0 3 (by decide) 11 6 2048 64 2112 rfl rfl rfl (Str.ofString "s") (Str.ofString "S") (Str.ofString "x") (Str.ofString "-xSs") (mode / 2 ^ (11 - 0) % 2) (mode / 8 ^ (2 - 0) % 8 % 2) (by simp only [Nat.reduceSub, Int.reducePow]) (g1 (by decide)) (by decide +kernel) (by decide +kernel) (by decide +kernel) (by decide +kernel)
  have r4 := row_1 h0 4 (by decide) 5 32 rfl (Str.ofString "r") (mode / 8 ^ (2 - 1) % 8 / 4) (g4 h0 (by decide) (by decide)) (Str.ofString "-r") (by decide +kernel) (by decide +kernel) (by decide +kernel)
  have r5 := row_1 h0 5 (by decide) 4 16 rfl (Str.ofString "w") (mode / 8 ^ (2 - 1) % 8 / 2 % 2) (g2 h0 (by decide) (by decide)) (Str.ofString "-w") (by decide +kernel) (by decide +kernel) (by decide +kernel)
  have r6 := row_3 h0 6 (by decide) 10 3 1024 8 1032 rfl rfl rfl (Str.ofString "s") (Str.ofString "S") (Str.ofString "x") (Str.ofString "-xSs") (mode / 2 ^ (11 - 1) % 2) (mode / 8 ^ (2 - 1) % 8 % 2) (by simp only [Nat.reduceSub, Int.reducePow]) (g1 (by decide)) (by decide +kernel) (by decide +kernel) (by decide +kernel) (by decide +kernel)
  have r7 := row_1 h0 7 (by decide) 2 4 rfl (Str.ofString "r") (mode / 8 ^ (2 - 2) % 8 / 4) (g4 h0 (by decide) (by decide)) (Str.ofString "-r") (by decide +kernel) (by decide +kernel) (by decide +kernel)
  have r8 := row_1 h0 8 (by decide) 1 2 rfl (Str.ofString "w") (mode / 8 ^ (2 - 2) % 8 / 2 % 2) (g2 h0 (by decide) (by decide)) (Str.ofString "-w") (by decide +kernel) (by decide +kernel) (by decide +kernel)
  have r9 := row_3 h0 9 (by decide) 9 0 512 1 513 rfl rfl rfl (Str.ofString "t") (Str.ofString "T") (Str.ofString "x") (Str.ofString "-xTt") (mode / 2 ^ (11 - 2) % 2) (mode / 8 ^ (2 - 2) % 8 % 2) (by simp only [Nat.reduceSub, Int.reducePow]) (g1 (by decide)) (by decide +kernel) (by decide +kernel) (by decide +kernel) (by decide +kernel)
  have e : fmRows mode 10 = [pick 0 mode (tab 0), pick 1 mode (tab 1), pick 2 mode (tab 2), pick 3 mode (tab 3), pick 4 mode (tab 4), pick 5 mode (tab 5), pick 6 mode (tab 6), pick 7 mode (tab 7), pick 8 mode (tab 8), pick 9 mode (tab 9)] := rfl
  rw [e, row_0 h0 h1, show tab 1 = [(256, Str.ofString "r")] from rfl, show tab 2 = [(128, Str.ofString "w")] from rfl, show tab 3 = [(2112, Str.ofString "s"), (2048, Str.ofString "S"), (64, Str.ofString "x")] from rfl,
    show tab 4 = [(32, Str.ofString "r")] from rfl, show tab 5 = [(16, Str.ofString "w")] from rfl, show tab 6 = [(1032, Str.ofString "s"), (1024, Str.ofString "S"), (8, Str.ofString "x")] from rfl,
    show tab 7 = [(4, Str.ofString "r")] from rfl, show tab 8 = [(2, Str.ofString "w")] from rfl, show tab 9 = [(513, Str.ofString "t"), (512, Str.ofString "T"), (1, Str.ofString "x")] from rfl,
    r1, r2, r3, r4, r5, r6, r7, r8, r9, join10]
  rfl
theorem pick_len (i : Nat) (mode : Int) : ∀ ps : List (Int × Str), (∀ p ∈ ps, p.2.length = 1) → (pick i mode ps).length = 1
  | [], _ => by unfold pick; split <;> decide +kernel
  | (b, c) :: r, h => by
    unfold pick
    split
    · exact h _ (.head _)
    · exact pick_len i mode r fun p hp => h p (.tail _ hp)
theorem tab_len : ∀ i < 10, ∀ p ∈ tab i, p.2.length = 1 := by decide +kernel
theorem rows_len (mode : Int) : ∀ i ≤ 10, ((fmRows mode i).map (·.length)).sum = i
  | 0, _ => rfl
  | i + 1, h => by
    rw [fmRows, List.map_append, List.sum_append, rows_len mode i (Nat.le_of_succ_le h), List.map_singleton, List.sum_singleton, pick_len i mode _ (tab_len i h)]
theorem fm_sum (mode : Int) : ((fmRows mode 10).map (·.length)).sum = 10 := rows_len mode 10 (Nat.le_refl _)
end HUx
section HMx
set_option maxRecDepth 100000
set_option maxHeartbeats 8000000
theorem fill5 : (fun (_ : OpenLaw) (_ : Params → Frag) => True) Challenge.rw_nq0079_01 hd.heap_39 := by
  w_top off
  k_fill
  trivial
noncomputable def PairsAt (h : Heap) (ta : Addr) (ps : List (Int × Str)) : Prop := ∃ (its : List Value), h.get? ta = some (tupO its) ∧ its.length = ps.length ∧ ∀ (j : Nat) b c, ps[j]? = some (b, c) → ∃ a u v, its[j]? = some (.ref a) ∧ h.get? a = some (tupO [.int b u, .str c v])
noncomputable def tabA : List Addr := [94, 96, 98, 102, 104, 106, 110, 112, 114, 118]
inductive PairsL (h : Heap) : List Value → List (Int × Str) → Prop
  | nil : PairsL h [] []
  | cons {b c a u x vs ps} (g : h.get? a = some (tupO [.int b u, .str c x])) (t : PairsL h vs ps) : PairsL h (.ref a :: vs) ((b, c) :: ps)
theorem PairsL.at {h : Heap} {its : List Value} {ps : List (Int × Str)} (q : PairsL h its ps) : its.length = ps.length ∧ ∀ (j : Nat) b c, ps[j]? = some (b, c) → ∃ a u v, its[j]? = some (.ref a) ∧ h.get? a = some (tupO [.int b u, .str c v]) := by
  induction q with
  | nil => exact ⟨rfl, fun j b c e => nomatch e⟩
  | cons g t ih =>
    refine ⟨congrArg (· + 1) ih.1, fun j b c e => ?_⟩
    cases j with
    | zero =>
      cases e
      exact ⟨_, _, _, rfl, g⟩
    | succ j => exact ih.2 j b c e
inductive TabsL (h : Heap) : List Addr → List (List (Int × Str)) → Prop
  | nil : TabsL h [] []
  | cons {a ps its as rs} (g : h.get? a = some (tupO its)) (q : PairsL h its ps) (t : TabsL h as rs) : TabsL h (a :: as) (ps :: rs)
theorem TabsL.at {h : Heap} {as : List Addr} {rs : List (List (Int × Str))} (q : TabsL h as rs) : ∀ (i : Nat) a ps, as[i]? = some a → rs[i]? = some ps → PairsAt h a ps := by
  induction q with
  | nil => exact fun i a ps e => nomatch e
  | cons g q t ih =>
    intro i a ps e1 e2
    cases i with
    | zero =>
      cases e1
      cases e2
      exact ⟨_, g, q.at⟩
    | succ i => exact ih i a ps e1 e2
theorem tabs_all {w : World} {h : Heap} (X : (hd.heap_39 w.params).In h) : TabsL h tabA [tab 0, tab 1, tab 2, tab 3, tab 4, tab 5, tab 6, tab 7, tab 8, tab 9] :=
  .cons (X _ _ rfl) (.cons (X _ _ rfl) (.cons (X _ _ rfl) (.cons (X _ _ rfl) (.cons (X _ _ rfl) (.cons (X _ _ rfl) (.cons (X _ _ rfl) (.cons (X _ _ rfl) .nil)))))))
  (.cons (X _ _ rfl) (.cons (X _ _ rfl) .nil)
  (.cons (X _ _ rfl) (.cons (X _ _ rfl) .nil)
  (.cons (X _ _ rfl) (.cons (X _ _ rfl) (.cons (X _ _ rfl) (.cons (X _ _ rfl) .nil)))
  (.cons (X _ _ rfl) (.cons (X _ _ rfl) .nil)
  (.cons (X _ _ rfl) (.cons (X _ _ rfl) .nil)
  (.cons (X _ _ rfl) (.cons (X _ _ rfl) (.cons (X _ _ rfl) (.cons (X _ _ rfl) .nil)))
  (.cons (X _ _ rfl) (.cons (X _ _ rfl) .nil)
  (.cons (X _ _ rfl) (.cons (X _ _ rfl) .nil)
  (.cons (X _ _ rfl) (.cons (X _ _ rfl) (.cons (X _ _ rfl) (.cons (X _ _ rfl) .nil)))
  .nil)))))))))
theorem tabs_at {w : World} {h : Heap} (X : (hd.heap_39 w.params).In h) (i : Nat) (a : Addr) (ha : tabA[i]? = some a) : PairsAt h a (tab i) := by
  refine (tabs_all X).at i a _ ha ?_
  have hi : i < 10 := (List.getElem?_eq_some_iff.mp ha).1
  show ((List.range 10).map tab)[i]? = _
  rw [List.getElem?_map, List.getElem?_range hi]
  rfl
theorem strs_snoc {y : Str} {t : Tok} : ∀ {vs : List Value} {ys : List Str}, StrsAre vs ys → StrsAre (vs ++ [.str y t]) (ys ++ [y])
  | _, _, .nil => .cons _ _ .nil
  | _, _, .cons _ _ h => .cons _ _ (strs_snoc h)
inductive FmI (P : Nat) (news : List (Addr × Obj)) (mode : Int) (t1 : Tok) (i : Nat) (m1 : Str → Option Value) (nx : List (Addr × Obj)) : Prop
  | mk (vs : List Value) (n : Nat) (h1 : nx = (P, listOf vs.toArray n) :: news) (h2 : StrsAre vs (fmRows mode i)) (h3 : m1 (Str.ofString "mode") = some (Value.int mode t1)) (h4 : m1 (Str.ofString "perm") = some (Value.ref P))
inductive FpI (P : Nat) (vs : List Value) (n : Nat) (R : List (Addr × Obj)) (i : Nat) (mode : Int) (t1 t : Tok) (j : Nat) (m1 : Str → Option Value) (nx : List (Addr × Obj)) : Prop
  | mk (h1 : nx = (P, listOf vs.toArray n) :: R) (h2 : pick i mode ((tab i).drop j) = pick i mode (tab i)) (h3 : m1 (Str.ofString "mode") = some (Value.int mode t1)) (h4 : m1 (Str.ofString "perm") = some (Value.ref P)) (h5 : m1 (Str.ofString "index") = some (Value.int (i : Int) t))
theorem filemode_ok {w : World} {A₀ : Around} {base h₀ : Heap} {env : Env} {outer : List Env} {L : Addr} {m mg mb : Str → Option Value} {mean : ExcName → Option Value}
   {s : Shared} {news : List (Addr × Obj)} {mode : Int} {t1 : Tok} {Q : Value → Shared → Prop} {E : Value → Shared → Prop}
   (B : Below A₀ base outer h₀) (X : (hd.heap_39 w.params).In h₀) (T : Top hd.view_39 LS mean mg mb h₀) (F : Fr h₀ L s.heap m) (N : News h₀ L s.heap news)
   (hf : env.frame = some L) (hk : env.scope.kind = .function) (h0 : 0 ≤ mode) (h1 : mode < 65536)
   (h : ∀ h' tk t', Fr h₀ L h' m → News h₀ L h' news → Q (.str (listingS mode) t') { s with heap := h', toks := tk }) :
   wpAny (model prog w) (Ar 302 7 (env :: outer)) (call (.ref 126) [.int mode t1]) Q E s := by
  refine wpAny_call ?_
  k_with_none
  k_with "subscriptTail" => (k_here; (with_reducible show wpAny _ _ (subscriptTail _ _ (Value.ref _) (Value.int _ _)) _ _ _); k_dflt (refine' row_sub ?k1 ?k2 ?k3 ?k4 ?k5 ?k6 ?_ ?k7 ?k8; (case k1 => k_asm); (case k2 => k_mem); (case k3 => with_reducible assumption); (case k4 => (first | exact Int.natCast_nonneg _ | ((try simp only [shr1]); (first | lia | omega)))); (case k5 => (first | exact Int.ofNat_lt.mpr (by assumption) | ((try simp only [shr1]); (first | lia | omega)))); (case k6 => (first | assumption | ((try simp only [List.length_dropLast, List.length_set]); (first | lia | omega)))); (case k7 => with_unfolding_all rfl); (case k8 => intro _; with_unfolding_all rfl); k_whole); intro _ _ _ _ _ _)
  k_with "compareOp Lt ref ref" => (k_here; k_dflt (refine' lt_rowR ?k1 ?k5 ?k2 ?k3 ?k4 ?_; (case k1 => k_asm); (case k5 => with_reducible assumption); (case k2 => with_reducible assumption); (case k3 => with_reducible assumption); (case k4 => k_units); k_whole))
  k_with "setItem ref int" => (k_here; (with_reducible show wpAny _ _ (setItem (Value.ref _) (Value.int _ _) (Value.ref _)) _ _ _); k_dflt (refine' row_set ?k1 ?k2 ?k3 ?k4 ?k5 ?k6 ?k7 ?k8 ?_; (case k1 => k_asm); (case k2 => k_asm); (case k3 => k_upd); (case k4 => with_reducible assumption); (case k5 => exact ⟨_, _, _, _, rfl, by assumption⟩); (case k6 => (first | exact Int.natCast_nonneg _ | lia | omega)); (case k7 => (first | exact Int.ofNat_lt.mpr (by assumption) | lia | omega)); (case k8 => (first | assumption | ((try simp only [List.length_dropLast, List.length_set]); (first | lia | omega)))); k_whole); intro _ _ _ _; (try k_sweep))
  k_with "call builtin:len" => (k_here; (with_reducible show wpAny _ _ (call (Value.builtin _) [Value.ref _]) _ _ _); k_dflt (refine' row_len ?k1 ?k2 ?k3 ?k4 ?_; (case k1 => k_asm); (case k2 => k_mem); (case k3 => with_reducible assumption); (case k4 => (first | assumption | lia | omega)); k_whole))
  k_with "call builtin:list.pop" => (k_here; (with_reducible show wpAny _ _ (call (Value.builtin _) [Value.ref _]) _ _ _); k_dflt (refine' row_pop ?F ?N ?U ?i ?l ?z ?_; (case F => k_asm); (case N => k_asm); (case U => k_upd); (case i => with_reducible assumption); (case l => (first | assumption | lia | omega)); (case z => (first | assumption | lia | omega)); k_whole); intro _ _ _ _ _ _ _ _ _; (try k_sweep))
  k_with "truthy ref" => (k_here; (with_reducible show wpAny _ _ (truthy (Value.ref _)) _ _ _); k_dflt (refine' row_truthy ?N ?m ?i ?z ?_; (case N => k_asm); (case m => k_mem); (case i => with_reducible assumption); (case z => ((try simp only [List.length_dropLast]); (first | lia | omega))); k_whole))
  k_with "subscriptTail" => (k_here; (with_reducible show wpAny _ _ (subscriptTail _ _ (Value.str _ _) (Value.int _ _)) _ _ _); k_dflt (refine' str_at ?hl ?k4 ?k5 ?k6 ?_ ?k7 ?k8; (case hl => assumption); (case k6 => decide); (case k4 | k5 => ((try simp only [Nat.cast_ofNat, fd2, fd4, fd8, fd16, fd64, fd256, fd512, fd1024, fd2048, fd4096, fd65536, fm2, fm4, fm8, fm16, fm64, fm256, fm512, fm1024, fm2048, fm4096, fm65536, Int.reduceSub, Int.reduceToNat, Int.reducePow, Int.reduceAdd, Int.reduceMul]); (first | exact Int.emod_nonneg _ (by decide) | exact Int.emod_lt_of_pos _ (by decide) | exact Int.ediv_nonneg (by assumption) (by decide) | lia | omega))); (case k7 => with_unfolding_all rfl); (case k8 => intro _; with_unfolding_all rfl); k_whole))
  k_with "subscriptTail Name BinOp str int" => (k_here; (with_reducible show wpAny _ _ (subscriptTail _ _ (Value.str _ _) (Value.int _ _)) _ _ _); k_dflt (refine' str_at ?hl ?k4 ?k5 ?k6 ?_ ?k7 ?k8; (case hl => assumption); (case k6 => decide); (case k4 | k5 => ((try simp only [Nat.cast_ofNat, fd2, fd4, fd8, fd16, fd64, fd256, fd512, fd1024, fd2048, fd4096, fd65536, fm2, fm4, fm8, fm16, fm64, fm256, fm512, fm1024, fm2048, fm4096, fm65536, Int.reduceSub, Int.reduceToNat, Int.reducePow, Int.reduceAdd, Int.reduceMul]); (first | exact Int.emod_nonneg _ (by decide) | exact Int.emod_lt_of_pos _ (by decide) | exact Int.ediv_nonneg (by assumption) (by decide) | lia | omega))); (case k7 => with_unfolding_all rfl); (case k8 => intro _; with_unfolding_all rfl); k_whole))
  k_with "binaryOp Add str str" => (k_here; (with_reducible show wpAny _ _ (binaryOp Operator.Add (Value.str _ _) (Value.str _ _)) _ _ _); (refine add_str (hsz := ?z) ?_); (case z => (rw [sizeLine_eq]; (try simp only [Str.length_append, ch_len, eq_len, lsText_len]); (first | lia | omega))); intro _ _)
  k_with "inplaceOp Add str str" => (k_here; (with_reducible show wpAny _ _ (inplaceOp Operator.Add (Value.str _ _) (Value.str _ _)) _ _ _); (refine iadd_str (hsz := ?z) ?_); (case z => (rw [sizeLine_eq]; (try simp only [Str.length_append, ch_len, eq_len, lsText_len]); (first | lia | omega))); intro _ _)
  k_with "subscriptTail" => (k_here; (with_reducible show wpAny _ _ (subscriptTail (Expr.Tuple _ _ _) _ (Value.ref _) (Value.int _ _)) _ _ _); k_dflt (refine' kim_tup ?N ?m ?c ?d ?lo ?hi ?j ?x ?_ ?k7 ?k8; (case N => k_asm); (case m => exact List.Mem.head _); (case c => rfl); (case d => rfl); (case lo => decide); (case hi => decide); (case j => rfl); (case x => rfl); (case k7 => with_unfolding_all rfl); (case k8 => intro _; with_unfolding_all rfl); k_whole))
  k_with "call builtin:list.append" => (k_here; (with_reducible show wpAny _ _ (call (Value.builtin _) [Value.ref _, _]) _ _ _); k_dflt (refine' app_any ?k1 ?k2 ?k3 ?k4 ?_; (case k1 => k_asm); (case k2 => k_asm); (case k3 => exact Upd.head (by assumption)); (case k4 => (first | lia | omega)); k_whole); intro _ _ _; (try k_sweep))
  (refine' code_def ?k1 ?k2 ?k3 ?k4 ?k5 ?kA ?kF ?kK ?k6 ?k7 ?k8 ?k9 ?kB ?_ ?c2 ?c3 ?c4 ?c5; (case kA => exact rfl); (case kF => assumption); (case kK => assumption); (case k1 => k_asm); (case k2 => k_asm); (case k3 => k_asm); (case k4 => k_asm); (case k5 => k_asm); (case k6 => k_is); (case k7 => k_is); (case k8 => k_room); (case k9 => first | exact BindsTo.of_eq rfl | exact binds_K (by k_in) rfl (by k_is) rfl rfl rfl | fail "k_enter: no rule for these arguments"); (case c5 => decide); (case kB => exact locs rfl); (case c2 => exact rfl); (case c3 => exact rfl); (case c4 => exact rfl); k_whole; walk_at "mine in")
  (repeat' ((fail_if_success (with_reducible show wpAny _ _ (exec (Stmt.While _ _ _ _) _) _ _ _)); (fail_if_success (with_reducible show WhileStep2 _ _ _ _ _ _ _ _)); (fail_if_success (with_reducible show wpAny _ _ (pyIter _) _ _ _)); (fail_if_success (with_reducible show InvEndG _ _ _ _ _ _)); (fail_if_success (with_reducible show wpAny _ _ (exec (Stmt.For _ _ _ _ _) _) _ _ _)); (fail_if_success (with_reducible show CEnd _ _ _ _ _ _ _ _ _ _ _ _)); (fail_if_success (with_reducible show wpAny _ _ (exec (Stmt.Assign _ (Expr.ListComp _ _ _ _) _) _) _ _ _)); (fail_if_success (with_reducible show wpAny _ _ (call (Value.type _) _ _) _ _ _)); (fail_if_success (with_reducible show wpAny _ _ (call (Value.builtin "sorted") _ _) _ _ _)); (first | (k_unfold; (try dsimp only)) | (k_end; wrow_close) | ((first | with_reducible k_extra "subscriptTail" | walk1); (all_goals try dsimp only)) | (dsimp only; (first | with_reducible k_extra "subscriptTail" | walk1)) | (leave1; walk_say "STEP leave1"; try dsimp only) | fail "no step")))
  refine wpAny_For ?_
  (repeat' ((fail_if_success (with_reducible show wpAny _ _ (exec (Stmt.While _ _ _ _) _) _ _ _)); (fail_if_success (with_reducible show WhileStep2 _ _ _ _ _ _ _ _)); (fail_if_success (with_reducible show wpAny _ _ (pyIter _) _ _ _)); (fail_if_success (with_reducible show InvEndG _ _ _ _ _ _)); (fail_if_success (with_reducible show wpAny _ _ (exec (Stmt.For _ _ _ _ _) _) _ _ _)); (fail_if_success (with_reducible show CEnd _ _ _ _ _ _ _ _ _ _ _ _)); (fail_if_success (with_reducible show wpAny _ _ (exec (Stmt.Assign _ (Expr.ListComp _ _ _ _) _) _) _ _ _)); (fail_if_success (with_reducible show wpAny _ _ (call (Value.type _) _ _) _ _ _)); (fail_if_success (with_reducible show wpAny _ _ (call (Value.builtin "sorted") _ _) _ _ _)); (first | (k_unfold; (try dsimp only)) | (k_end; wrow_close) | ((first | with_reducible k_extra "subscriptTail" | walk1); (all_goals try dsimp only)) | (dsimp only; (first | with_reducible k_extra "subscriptTail" | walk1)) | (leave1; walk_say "STEP leave1"; try dsimp only) | fail "no step")))
  rename_i g' L' _ _ BG XG TG tk1 P _ hltP h2 F1 N1
  have g119 := XG 119 _ rfl
  have fresh : ∀ a, h2.objs.size ≤ a → g'.get? a = none := fun a ha => by
    cases e : g'.get? a with
    | none => rfl
    | some o' => exact absurd (Heap.lt_size (F1.keep a o' e)) (Nat.not_lt.mpr ha)
  have hLs := ltN F1.ns.lt
  have h119 := ltN (Heap.lt_size (F1.keep _ _ g119))
  refine call_enumerate_tuple (items := (tabA.map Value.ref).toArray) ⟨_, F1.keep _ _ g119, rfl, _, rfl⟩ ?_
  intro h3 he hit3 hsz3 hk3
  dsimp only at he hit3 hsz3 hk3 ⊢
  refine wpAny_pyIter_enum he ?_
  obtain ⟨J, hJ⟩ : ∃ J : Nat → (Str → Option Value) → List (Addr × Obj) → Prop, J = FmI P news mode t1 := ⟨_, rfl⟩
  refine forT (k := 119) (ok := tupO (tabA.map Value.ref)) (P2 := fun i v0 v1 => ∃ t a, tabA[i]? = some a ∧ v0 = .int i t ∧ v1 = .ref a)
    J
    rfl (WalksT.enumerateD (draws_tuple rfl h2.objs.size 119 (Nat.ne_of_lt h119) (tabA.map Value.ref).toArray) (h2.objs.size + 1) (Nat.succ_ne_self _) (not_mem2 (Nat.succ_ne_self _) (Nat.ne_of_gt (Nat.lt_succ_of_lt h119))) (.head _)) ?_ ?_ ?_ ?_ rfl rfl rfl ?_ ?_ ?_ ?_ (.inl g119) ⟨⟨_, he⟩, hit3, ?_⟩ (F1.keeps hk3) (fun p hp => ⟨hk3 _ _ (N1 p hp).1, (N1 p hp).2⟩) (by rw [hJ]; exact ⟨[], 0, rfl, .nil, rfl, rfl⟩) ?_ ?_
  · intro b hb
    simp at hb ⊢
    rcases hb with h | h | h <;> simp [h]
  · rintro i h ⟨⟨old, q1⟩, ⟨o, q2, _⟩, _⟩ b hb
    rcases List.mem_cons.mp hb with rfl | hb
    · exact ⟨_, q1⟩
    · rw [List.mem_singleton.mp hb]
      exact ⟨_, q2⟩
  · exact not_mem2 (Nat.ne_of_lt (Nat.lt_succ_of_lt h119)) (Nat.ne_of_lt h119)
  · rintro i vals ⟨t, x, q1, rfl⟩
    have q2 : (tabA.map Value.ref)[i]? = some x := by simpa using q1
    rw [List.getElem?_map] at q2
    cases e : tabA[i]? with
    | none => rw [e] at q2; cases q2
    | some a => rw [e] at q2; exact ⟨_, _, rfl, t, a, rfl, rfl, (Option.some.inj q2).symm⟩
  · exact not_mem2 (Nat.ne_of_lt (Nat.lt_succ_of_lt hLs)) (Nat.ne_of_lt hLs)
  · intro e
    have h6 : g'.objs.size ≤ L' := F1.above
    have h5 := Heap.lt_size g119
    replace e : L' = 119 := e
    rw [e] at h6
    exact absurd h5 (Nat.not_lt.mpr h6)
  · intro b hb
    refine fresh b ?_
    simp at hb
    rcases hb with rfl | rfl
    · exact Nat.le_succ _
    · exact Nat.le_refl _
  · intro p hp hb
    have := ltN (Heap.lt_size (N1 p hp).1)
    exact not_mem2 (Nat.ne_of_lt (Nat.lt_succ_of_lt this)) (Nat.ne_of_lt this) hb
  · exact ⟨_, hk3 _ _ (F1.keep _ _ g119), rfl, _, rfl⟩
  · clear F1 N1
    rintro i v0 v1 m1 nx h4 tk4 own hi ⟨t, a, hta, rfl, rfl⟩ hoff hj F2 N2
    rw [hJ] at hj
    obtain ⟨vs, n, rfl, hS, q1, q2⟩ := hj
    have hi10 : i < 10 := by simpa [tabA] using hi
    have hvl : vs.length < 2000 := by rw [hS.length, fmRows_len]; (first | lia | omega)
    obtain ⟨its, ga, hil, hpr⟩ := tabs_at XG i a hta
    replace F2 := (((Ov.nil F2).cons (x := Str.ofString "mode") ((if_neg (by decide)).trans ((if_neg (by decide)).trans q1))).cons (x := Str.ofString "perm") ((if_neg (by decide)).trans ((if_neg (by decide)).trans q2))).cons (x := Str.ofString "index") (v := .int i t) ((if_neg (by decide)).trans (if_pos rfl)) |>.cons (x := Str.ofString "table") (v := .ref a) (if_pos rfl) |>.fr
    (try ((with_reducible show wpAny _ _ _ _ _ _); k_fold))
    (repeat' ((fail_if_success (with_reducible show wpAny _ _ (exec (Stmt.While _ _ _ _) _) _ _ _)); (fail_if_success (with_reducible show WhileStep2 _ _ _ _ _ _ _ _)); (fail_if_success (with_reducible show wpAny _ _ (pyIter _) _ _ _)); (fail_if_success (with_reducible show InvEndG _ _ _ _ _ _)); (fail_if_success (with_reducible show wpAny _ _ (exec (Stmt.For _ _ _ _ _) _) _ _ _)); (fail_if_success (with_reducible show CEnd _ _ _ _ _ _ _ _ _ _ _ _)); (fail_if_success (with_reducible show wpAny _ _ (exec (Stmt.Assign _ (Expr.ListComp _ _ _ _) _) _) _ _ _)); (fail_if_success (with_reducible show wpAny _ _ (call (Value.type _) _ _) _ _ _)); (fail_if_success (with_reducible show wpAny _ _ (call (Value.builtin "sorted") _ _) _ _ _)); (first | (k_unfold; (try dsimp only)) | (k_end; wrow_close) | ((first | with_reducible k_extra "subscriptTail" | walk1); (all_goals try dsimp only)) | (dsimp only; (first | with_reducible k_extra "subscriptTail" | walk1)) | (leave1; walk_say "STEP leave1"; try dsimp only) | fail "no step")))
    refine wpAny_For ?_
    (try ((with_reducible show wpAny _ _ _ _ _ _); k_fold))
    (repeat' ((fail_if_success (with_reducible show wpAny _ _ (exec (Stmt.While _ _ _ _) _) _ _ _)); (fail_if_success (with_reducible show WhileStep2 _ _ _ _ _ _ _ _)); (fail_if_success (with_reducible show wpAny _ _ (pyIter _) _ _ _)); (fail_if_success (with_reducible show InvEndG _ _ _ _ _ _)); (fail_if_success (with_reducible show wpAny _ _ (exec (Stmt.For _ _ _ _ _) _) _ _ _)); (fail_if_success (with_reducible show CEnd _ _ _ _ _ _ _ _ _ _ _ _)); (fail_if_success (with_reducible show wpAny _ _ (exec (Stmt.Assign _ (Expr.ListComp _ _ _ _) _) _) _ _ _)); (fail_if_success (with_reducible show wpAny _ _ (call (Value.type _) _ _) _ _ _)); (fail_if_success (with_reducible show wpAny _ _ (call (Value.builtin "sorted") _ _) _ _ _)); (first | (k_unfold; (try dsimp only)) | (k_end; wrow_close) | ((first | with_reducible k_extra "subscriptTail" | walk1); (all_goals try dsimp only)) | (dsimp only; (first | with_reducible k_extra "subscriptTail" | walk1)) | (leave1; walk_say "STEP leave1"; try dsimp only) | fail "no step")))
    have fresh4 : ∀ a, h4.objs.size ≤ a → g'.get? a = none := fun a ha => by
      cases e : g'.get? a with
      | none => rfl
      | some o' => exact absurd (Heap.lt_size (F2.keep a o' e)) (Nat.not_lt.mpr ha)
    have has : a < h4.objs.size := Heap.lt_size (F2.keep _ _ ga)
    refine wpAny_pyIter_tuple (items := its.toArray) ⟨_, F2.keep _ _ ga, rfl, _, rfl⟩ ?_
    dsimp only
    have hPn : ∀ p ∈ news ++ own, p.1 ≠ P := by
      intro p hp
      rcases List.mem_append.mp hp with hp | hp
      · exact Nat.ne_of_lt (hltP p hp)
      · exact hoff p hp _ (.head _)
    obtain ⟨J2, hJ2⟩ : ∃ J : Nat → (Str → Option Value) → List (Addr × Obj) → Prop, J = FpI P vs n (news ++ own) i mode t1 t := ⟨_, rfl⟩
    refine forG (k := a) (ok := tupO its) (news := (P, listOf vs.toArray n) :: (news ++ own))
      J2
      (Walks.tuple rfl h4.objs.size a (Nat.ne_of_lt has) its.toArray) (by intro b hb; simp at hb ⊢; exact hb) ?_ ?_ ?_ ?_ ?_ (.inl ga) ⟨⟨_, Heap.get?_push_size _ rfl, rfl, rfl⟩, ⟨_, Heap.get?_push_of_some _ (F2.keep _ _ ga), rfl, _, rfl⟩⟩ (F2.push _) (fun p hp => ⟨Heap.get?_push_of_some _ (N2 p hp).1, (N2 p hp).2⟩) (by rw [hJ2]; exact ⟨rfl, rfl, rfl, rfl, rfl⟩) ?_ ?_
    · rintro i h ⟨⟨o, q2, _⟩, _⟩ b hb
      rw [List.mem_singleton.mp hb]
      exact ⟨_, q2⟩
    · rintro j v s' Q' hv st hq
      have hj : j < its.length := by
        have := Array.getElem?_eq_some_iff.mp hv
        simpa using this.1
      obtain ⟨b, u, v', hb, _⟩ := hpr j _ _ (List.getElem?_eq_getElem (by (first | lia | omega)))
      have ev : v = .ref b := by
        have e : its.toArray[j]? = its[j]? := by simp
        rw [e, hb] at hv
        exact (Option.some.inj hv).symm
      subst ev
      exact go_tuple st.1 hq
    · intro hm
      exact Nat.lt_irrefl _ ((List.mem_singleton.mp hm) ▸ F2.ns.lt)
    · intro b hb
      rw [List.mem_singleton.mp hb]
      exact fresh4 _ (Nat.le_refl _)
    · intro p hp hb
      exact Nat.lt_irrefl _ ((List.mem_singleton.mp hb) ▸ Heap.lt_size (N2 p hp).1)
    · clear F2 N2
      rintro j v m2 nx h5 tk5 own2 hj hv hoff2 hjj F3 N3
      rw [hJ2] at hjj
      obtain ⟨rfl, hpk, q3, q4, q5⟩ := hjj
      have hj2 : j < its.length := by simpa using hj
      have hj3 : j < (tab i).length := by (first | lia | omega)
      obtain ⟨b, u, v', hb, gb⟩ := hpr j ((tab i)[j]'hj3).1 ((tab i)[j]'hj3).2 (List.getElem?_eq_getElem hj3)
      have ev : v = .ref b := by
        have e : its.toArray[j]? = its[j]? := by simp
        rw [e, hb] at hv
        exact (Option.some.inj hv).symm
      subst ev
      have hpd : pick i mode ((tab i).drop j) = if hit i mode ((tab i)[j]'hj3).1 then ((tab i)[j]'hj3).2 else pick i mode ((tab i).drop (j + 1)) := by
        rw [List.drop_eq_getElem_cons hj3]
        rfl
      generalize ((tab i)[j]'hj3).1 = bit at *
      generalize ((tab i)[j]'hj3).2 = char at *
      refine asg_pair rfl F3 N3 ⟨_, F3.keep _ _ gb, rfl, _, rfl⟩ rfl rfl rfl ?_
      clear F3 N3
      intro h6 tk6 F4 N4
      replace F4 := (((Ov.nil F4).cons (x := Str.ofString "mode") ((if_neg (by decide)).trans ((if_neg (by decide)).trans q3))).cons (x := Str.ofString "perm") ((if_neg (by decide)).trans ((if_neg (by decide)).trans q4))).cons (x := Str.ofString "index") ((if_neg (by decide)).trans ((if_neg (by decide)).trans q5)) |>.cons (x := Str.ofString "bit") (v := .int bit u) ((if_neg (by decide)).trans (if_pos rfl)) |>.cons (x := Str.ofString "char") (v := .str char v') (if_pos rfl) |>.fr
      have N5 : News g' L' h6 ((P, listOf vs.toArray n) :: ((news ++ own) ++ own2)) := N4
      clear N4
      have hPo : ∀ p ∈ (news ++ own) ++ own2, p.1 ≠ P := by
        intro p hp
        rcases List.mem_append.mp hp with hp | hp
        · exact hPn p hp
        · exact hoff2 p hp _ (.head _)
      dsimp only
      (try ((with_reducible show wpAny _ _ _ _ _ _); k_fold))
      (repeat' ((fail_if_success (with_reducible show wpAny _ _ (exec (Stmt.While _ _ _ _) _) _ _ _)); (fail_if_success (with_reducible show WhileStep2 _ _ _ _ _ _ _ _)); (fail_if_success (with_reducible show wpAny _ _ (pyIter _) _ _ _)); (fail_if_success (with_reducible show InvEndG _ _ _ _ _ _)); (fail_if_success (with_reducible show wpAny _ _ (exec (Stmt.For _ _ _ _ _) _) _ _ _)); (fail_if_success (with_reducible show CEnd _ _ _ _ _ _ _ _ _ _ _ _)); (fail_if_success (with_reducible show wpAny _ _ (exec (Stmt.Assign _ (Expr.ListComp _ _ _ _) _) _) _ _ _)); (fail_if_success (with_reducible show wpAny _ _ (call (Value.type _) _ _) _ _ _)); (fail_if_success (with_reducible show wpAny _ _ (call (Value.builtin "sorted") _ _) _ _ _)); (first | (k_unfold; (try dsimp only)) | (k_end; wrow_close) | ((first | with_reducible k_extra "subscriptTail" | walk1); (all_goals try dsimp only)) | (dsimp only; (first | with_reducible k_extra "subscriptTail" | walk1)) | (leave1; walk_say "STEP leave1"; try dsimp only) | fail "no step")))
      · rename_i hc _ h7 F9 N9
        have hh : hit i mode bit := by unfold hit; rw [if_pos (by (first | lia | omega))]; assumption
        subst hJ
        refine InvEndG.intro F9 N9 (nx := (P, listOf (vs ++ [Value.str char v']).toArray (n + 1)) :: news) ⟨vs ++ [Value.str char v'], n + 1, rfl, ?_, rfl, rfl⟩ hoff (fun p hp => ?_) (fun p hp => .tail _ (List.mem_append_left _ (List.mem_append_right _ hp)))
        · rw [fmRows, ← hpk, hpd, if_pos hh]
          exact strs_snoc hS
        · rcases List.mem_cons.mp hp with rfl | hp
          · exact .head _
          · exact .tail _ (List.mem_append_left _ (List.mem_append_left _ hp))
      · rename_i F9 N9 _ _ hc
        have hh : ¬ hit i mode bit := by unfold hit; rw [if_pos (by (first | lia | omega))]; assumption
        subst hJ2
        refine InvEndG.intro F9 N9 (nx := (P, listOf vs.toArray n) :: (news ++ own)) ⟨rfl, ?_, rfl, rfl, rfl⟩ hoff2 (fun p hp => ?_) (fun p hp => .tail _ (List.mem_append_right _ hp))
        · rw [← hpk, hpd, if_neg hh]
        · rcases List.mem_cons.mp hp with rfl | hp
          · exact .head _
          · exact .tail _ (List.mem_append_left _ hp)
      · rename_i h7 F9 N9
        have hh : hit i mode bit := by unfold hit; rw [if_neg (by (first | lia | omega))]; assumption
        subst hJ
        refine InvEndG.intro F9 N9 (nx := (P, listOf (vs ++ [Value.str char v']).toArray (n + 1)) :: news) ⟨vs ++ [Value.str char v'], n + 1, rfl, ?_, rfl, rfl⟩ hoff (fun p hp => ?_) (fun p hp => .tail _ (List.mem_append_left _ (List.mem_append_right _ hp)))
        · rw [fmRows, ← hpk, hpd, if_pos hh]
          exact strs_snoc hS
        · rcases List.mem_cons.mp hp with rfl | hp
          · exact .head _
          · exact .tail _ (List.mem_append_left _ (List.mem_append_left _ hp))
      · have hh : ¬ hit i mode bit := by unfold hit; rw [if_neg (by (first | lia | omega))]; assumption
        subst hJ2
        refine InvEndG.intro F4 N5 (nx := (P, listOf vs.toArray n) :: (news ++ own)) ⟨rfl, ?_, rfl, rfl, rfl⟩ hoff2 (fun p hp => ?_) (fun p hp => .tail _ (List.mem_append_right _ hp))
        · rw [← hpk, hpd, if_neg hh]
        · rcases List.mem_cons.mp hp with rfl | hp
          · exact .head _
          · exact .tail _ (List.mem_append_left _ hp)
    · clear F2 N2
      intro m2 nx h5 tk5 hjj F3 N3
      rw [hJ2] at hjj
      obtain ⟨rfl, hpk, q3, q4, q5⟩ := hjj
      clear hJ2 J2
      replace F3 := (((Ov.nil F3).cons (x := Str.ofString "mode") q3).cons (x := Str.ofString "perm") q4).cons (x := Str.ofString "index") q5 |>.fr
      have N4 : News g' L' h5 ((P, listOf vs.toArray n) :: (news ++ own)) := N3
      clear N3
      rw [List.drop_of_length_le (by rw [List.size_toArray]; (first | lia | omega))] at hpk
      dsimp only
      (try ((with_reducible show wpAny _ _ _ _ _ _); k_fold))
      (repeat' ((fail_if_success (with_reducible show wpAny _ _ (exec (Stmt.While _ _ _ _) _) _ _ _)); (fail_if_success (with_reducible show WhileStep2 _ _ _ _ _ _ _ _)); (fail_if_success (with_reducible show wpAny _ _ (pyIter _) _ _ _)); (fail_if_success (with_reducible show InvEndG _ _ _ _ _ _)); (fail_if_success (with_reducible show wpAny _ _ (exec (Stmt.For _ _ _ _ _) _) _ _ _)); (fail_if_success (with_reducible show CEnd _ _ _ _ _ _ _ _ _ _ _ _)); (fail_if_success (with_reducible show wpAny _ _ (exec (Stmt.Assign _ (Expr.ListComp _ _ _ _) _) _) _ _ _)); (fail_if_success (with_reducible show wpAny _ _ (call (Value.type _) _ _) _ _ _)); (fail_if_success (with_reducible show wpAny _ _ (call (Value.builtin "sorted") _ _) _ _ _)); (first | (k_unfold; (try dsimp only)) | (k_end; wrow_close) | ((first | with_reducible k_extra "subscriptTail" | walk1); (all_goals try dsimp only)) | (dsimp only; (first | with_reducible k_extra "subscriptTail" | walk1)) | (leave1; walk_say "STEP leave1"; try dsimp only) | fail "no step")))
      · rename_i hc _ h7 F9 N9
        obtain ⟨tq, N9⟩ : ∃ tq, News g' L' h7 ((P, listOf (vs ++ [Value.str (Str.ofString "?") tq]).toArray (n + 1)) :: (news ++ own)) := ⟨_, N9⟩
        subst hJ
        refine InvEndG.intro F9 N9 (nx := (P, listOf (vs ++ [Value.str (Str.ofString "?") tq]).toArray (n + 1)) :: news) ⟨vs ++ [Value.str (Str.ofString "?") tq], n + 1, rfl, ?_, rfl, rfl⟩ hoff (fun p hp => ?_) (fun p hp => .tail _ (List.mem_append_right _ hp))
        · rw [fmRows, ← hpk, pick, if_pos (by (first | lia | omega))]
          exact strs_snoc hS
        · rcases List.mem_cons.mp hp with rfl | hp
          · exact .head _
          · exact .tail _ (List.mem_append_left _ hp)
      · rename_i hc _ h7 F9 N9
        obtain ⟨tq, N9⟩ : ∃ tq, News g' L' h7 ((P, listOf (vs ++ [Value.str (Str.ofString "-") tq]).toArray (n + 1)) :: (news ++ own)) := ⟨_, N9⟩
        subst hJ
        refine InvEndG.intro F9 N9 (nx := (P, listOf (vs ++ [Value.str (Str.ofString "-") tq]).toArray (n + 1)) :: news) ⟨vs ++ [Value.str (Str.ofString "-") tq], n + 1, rfl, ?_, rfl, rfl⟩ hoff (fun p hp => ?_) (fun p hp => .tail _ (List.mem_append_right _ hp))
        · rw [fmRows, ← hpk, pick, if_neg (by (first | lia | omega))]
          exact strs_snoc hS
        · rcases List.mem_cons.mp hp with rfl | hp
          · exact .head _
          · exact .tail _ (List.mem_append_left _ hp)
  · clear F1 N1
    intro m1 nx h4 tk4 hj F2 N2
    rw [hJ] at hj
    obtain ⟨vs, n, rfl, hS, q1, q2⟩ := hj
    clear hJ J
    replace F2 := ((Ov.nil F2).cons (x := Str.ofString "mode") q1).cons (x := Str.ofString "perm") q2 |>.fr
    have h10 : (tabA.map Value.ref).toArray.size = 10 := rfl
    rw [h10] at hS
    (try ((with_reducible show wpAny _ _ _ _ _ _); k_fold))
    (repeat' ((fail_if_success (with_reducible show wpAny _ _ (exec (Stmt.While _ _ _ _) _) _ _ _)); (fail_if_success (with_reducible show WhileStep2 _ _ _ _ _ _ _ _)); (fail_if_success (with_reducible show wpAny _ _ (pyIter _) _ _ _)); (fail_if_success (with_reducible show InvEndG _ _ _ _ _ _)); (fail_if_success (with_reducible show wpAny _ _ (exec (Stmt.For _ _ _ _ _) _) _ _ _)); (fail_if_success (with_reducible show CEnd _ _ _ _ _ _ _ _ _ _ _ _)); (fail_if_success (with_reducible show wpAny _ _ (exec (Stmt.Assign _ (Expr.ListComp _ _ _ _) _) _) _ _ _)); (fail_if_success (with_reducible show wpAny _ _ (call (Value.type _) _ _) _ _ _)); (fail_if_success (with_reducible show wpAny _ _ (call (Value.builtin "sorted") _ _) _ _ _)); (first | (k_unfold; (try dsimp only)) | (k_end; wrow_close) | ((first | with_reducible k_extra "subscriptTail" | walk1); (all_goals try dsimp only)) | (dsimp only; (first | with_reducible k_extra "subscriptTail" | walk1)) | (leave1; walk_say "STEP leave1"; try dsimp only) | fail "no step")))
    refine join_listW (items := vs.toArray) (ys := fmRows mode 10) (PySem.IsL.isList (n := n) (N2 _ (.head _)).1) hS (by decide +kernel) (by rw [fm_sum, fmRows_len]; decide) ?_
    intro t' k'
    rw [fm_listing h0 h1]
    (try ((with_reducible show wpAny _ _ _ _ _ _); k_fold))
    (repeat' ((fail_if_success (with_reducible show wpAny _ _ (exec (Stmt.While _ _ _ _) _) _ _ _)); (fail_if_success (with_reducible show WhileStep2 _ _ _ _ _ _ _ _)); (fail_if_success (with_reducible show wpAny _ _ (pyIter _) _ _ _)); (fail_if_success (with_reducible show InvEndG _ _ _ _ _ _)); (fail_if_success (with_reducible show wpAny _ _ (exec (Stmt.For _ _ _ _ _) _) _ _ _)); (fail_if_success (with_reducible show CEnd _ _ _ _ _ _ _ _ _ _ _ _)); (fail_if_success (with_reducible show wpAny _ _ (exec (Stmt.Assign _ (Expr.ListComp _ _ _ _) _) _) _ _ _)); (fail_if_success (with_reducible show wpAny _ _ (call (Value.type _) _ _) _ _ _)); (fail_if_success (with_reducible show wpAny _ _ (call (Value.builtin "sorted") _ _) _ _ _)); (first | (k_unfold; (try dsimp only)) | (k_end; wrow_close) | ((first | with_reducible k_extra "subscriptTail" | walk1); (all_goals try dsimp only)) | (dsimp only; (first | with_reducible k_extra "subscriptTail" | walk1)) | (leave1; walk_say "STEP leave1"; try dsimp only) | fail "no step")))
    rename_i F9 N9 _ _
    exact h _ _ _ F9 (news_of N9 fun p hp => .tail _ hp)
end HMx
section HYx
set_option maxRecDepth 100000
set_option maxHeartbeats 4000000
theorem band_mask {x : Int} (h : 0 ≤ x) (n : Nat) (c : Int) (hc : c = ((2 ^ n - 1 : Nat) : Int)) : Builtin.bitAnd x c = x % ((2 ^ n : Nat) : Int) := by
  obtain ⟨k, rfl⟩ := Int.eq_ofNat_of_zero_le h
  subst hc
  rw [bitAnd_pp h (Int.natCast_nonneg _)]
  simp only [Int.toNat_natCast]
  rw [Nat.and_two_pow_sub_one_eq_mod]
  rfl
theorem bor_pp {x y : Int} (hx : 0 ≤ x) (hy : 0 ≤ y) : Builtin.bitOr x y = ((x.toNat ||| y.toNat : Nat) : Int) := by
  unfold Builtin.bitOr
  have e1 : ¬ 0 ≤ Builtin.bitNot x := by unfold Builtin.bitNot; (first | lia | omega)
  have e2 : ¬ 0 ≤ Builtin.bitNot y := by unfold Builtin.bitNot; (first | lia | omega)
  rw [bitAnd_nn e1 e2]
  have n2 (z : Int) : Builtin.bitNot (Builtin.bitNot z) = z := by unfold Builtin.bitNot; (first | lia | omega)
  rw [n2, n2, n2]
theorem bor8 {x y : Int} (hx : 0 ≤ x) (hy : 0 ≤ y) (h : y < 256) : Builtin.bitOr (x * 2 ^ Int.toNat 8) y = x * 256 + y := by
  obtain ⟨a, rfl⟩ := Int.eq_ofNat_of_zero_le hx
  obtain ⟨b, rfl⟩ := Int.eq_ofNat_of_zero_le hy
  have e : ((a : Int) * 2 ^ Int.toNat 8) = ((2 ^ 8 * a : Nat) : Int) := by
    rw [Int.natCast_mul, Int.mul_comm]
    rfl
  rw [e, bor_pp (Int.natCast_nonneg _) hy]
  simp only [Int.toNat_natCast]
  rw [← Nat.two_pow_add_eq_or_of_lt (by (first | lia | omega))]
  (first | lia | omega)
theorem i63_8 {k : Int} (h : 0 ≤ k) : Builtin.bitAnd (k.fdiv (2 ^ ((8 : Int) - 6).toNat)) 63 = k / 4 % 64 := by
  have e : (2 : Int) ^ ((8 : Int) - 6).toNat = 4 := rfl
  rw [e, Int.fdiv_eq_ediv_of_nonneg _ (by decide), band_mask (by (first | lia | omega)) 6 63 rfl]
  rfl
theorem i63_10 {k : Int} (h : 0 ≤ k) : Builtin.bitAnd (k.fdiv (2 ^ ((10 : Int) - 6).toNat)) 63 = k / 16 % 64 := by
  have e : (2 : Int) ^ ((10 : Int) - 6).toNat = 16 := rfl
  rw [e, Int.fdiv_eq_ediv_of_nonneg _ (by decide), band_mask (by (first | lia | omega)) 6 63 rfl]
  rfl
theorem i15 {k : Int} (h : 0 ≤ k) : Builtin.bitAnd k 15 * 2 ^ Int.toNat 2 = k % 16 * 4 := by
  rw [band_mask h 4 15 rfl]
  rfl
theorem lc {x y : Int} (hx : 0 ≤ x) (hx2 : x < 256) (hy : 0 ≤ y) (h : y < 256) : Builtin.bitAnd (Builtin.bitOr (x * 2 ^ Int.toNat 8) y) 65535 = x * 256 + y := by
  rw [bor8 hx hy h, band_mask (by (first | lia | omega)) 16 65535 rfl]
  show (x * 256 + y) % 65536 = _
  (first | lia | omega)
end HYx
section HKx
set_option maxRecDepth 100000
set_option maxHeartbeats 4000000
open PySem.Builtin
-- decode('ascii') of four octets below 128
theorem road_ascii {id : String} {b : Array UInt8} : _codecs.decodeRoad id b (PySem.Str.ofString "ascii") none [] = (_codecs.runDecoder id _codecs.asciiDecoder none true b 0 [] >>= fun r => mkStr ⟨r.1⟩) := by kernel_rfl
theorem entry_ascii {c : UInt8} {cs : List UInt8} {t u : Tok} : «bytes.decode» ⟨[.bytes (c :: cs).toArray t, .str (PySem.Str.ofString "ascii") u], []⟩ = (mkStr (PySem.Str.ofString "utf-8") >>= fun _ => mkStr (PySem.Str.ofString "ascii") >>= fun e => mkStr (PySem.Str.ofString "bytes.decode") >>= fun d =>
    call (.builtin "_codecs.decode.text") [.bytes (c :: cs).toArray t, e, .none, d] >>= fun v => ret v) := by kernel_rfl
theorem forIn_step {α σ : Type} {f : α → σ → Sem (ForInStep σ)} {a : α} {l : List α} {s s' : σ} (h : f a s = pure (.yield s')) : forIn (a :: l) s f = forIn l s' f := by rw [List.forIn_cons, h, pure_bind]
theorem run_ascii {a b c d : UInt8} {id : String} (ha : a.toNat < 128) (hb : b.toNat < 128) (hc : c.toNat < 128) (hd : d.toNat < 128) :
    _codecs.runDecoder id _codecs.asciiDecoder none true #[a, b, c, d] 0 [] = pure (#[a.toNat, b.toNat, c.toNat, d.toNat], 4) := by
  have f0 : _codecs.asciiDecoder.find true #[a, b, c, d] 0 = .text [a.toNat] 1 := if_pos ha
  have f1 : _codecs.asciiDecoder.find true #[a, b, c, d] 1 = .text [b.toNat] 2 := if_pos hb
  have f2 : _codecs.asciiDecoder.find true #[a, b, c, d] 2 = .text [c.toNat] 3 := if_pos hc
  have f3 : _codecs.asciiDecoder.find true #[a, b, c, d] 3 = .text [d.toNat] 4 := if_pos hd
  unfold _codecs.runDecoder
  dsimp only
  rw [Std.Legacy.Range.forIn_eq_forIn_range', show List.range' [:#[a, b, c, d].size].start [:#[a, b, c, d].size].size [:#[a, b, c, d].size].step = [0, 1, 2, 3] from by kernel_rfl,
    forIn_step (s' := (1, #[a.toNat], {})) (Eq.trans (if_neg (show ¬ 0 > sizeLine by rw [sizeLine_eq]; decide)) (Eq.trans (if_neg (show ¬ 0 ≥ 4 by decide)) (by rw [f0]; rfl))),
    forIn_step (s' := (2, #[a.toNat, b.toNat], {})) (Eq.trans (if_neg (show ¬ 1 > sizeLine by rw [sizeLine_eq]; decide)) (Eq.trans (if_neg (show ¬ 1 ≥ 4 by decide)) (by rw [f1]; rfl))),
    forIn_step (s' := (3, #[a.toNat, b.toNat, c.toNat], {})) (Eq.trans (if_neg (show ¬ 2 > sizeLine by rw [sizeLine_eq]; decide)) (Eq.trans (if_neg (show ¬ 2 ≥ 4 by decide)) (by rw [f2]; rfl))),
    forIn_step (s' := (4, #[a.toNat, b.toNat, c.toNat, d.toNat], {})) (Eq.trans (if_neg (show ¬ 3 > sizeLine by rw [sizeLine_eq]; decide)) (Eq.trans (if_neg (show ¬ 3 ≥ 4 by decide)) (by rw [f3]; rfl))), List.forIn_nil, pure_bind]
theorem meets_text {b : Array UInt8} {x : Array Nat} {n : Nat} {t t1 t2 : Tok} {d : PySem.Str} (hd : ∀ id, _codecs.runDecoder id _codecs.asciiDecoder none true b 0 [] = pure (x, n)) :
    Meets («_codecs.decode.text» ⟨[.bytes b t, .str (PySem.Str.ofString "ascii") t1, .none, .str d t2], []⟩) (fun _ R s => x.size ≤ sizeLine ∧ R (.ok (.ret (.str ⟨x⟩ s.toks))) { s with toks := s.toks + 1 }) := by
  refine .of_wp fun prog w A R s hS => ?_
  obtain ⟨hsz, h⟩ := hS
  show wpAny _ _ (Bytes.bytesLike _ (.bytes b t) >>= fun r => _) _ _ s
  refine wpAny_bind (wpAny_of_eq KBd.like_eq ?_)
  refine wpAny_bind (wpAny_of_eq KBd.held_eq ?_)
  show wpAny _ _ (_codecs.decodeRoad _ b (PySem.Str.ofString "ascii") none [] >>= fun v => _) _ _ s
  rw [road_ascii, hd]
  refine wpAny_bind (wpAny_bind (wpAny_pure ?_))
  exact wpAny_mkStr (wpAny_pure ⟨_, rfl, h⟩) hsz
theorem meets_decode {a b c d : UInt8} {t u : Tok} (ha : a.toNat < 128) (hb : b.toNat < 128) (hc : c.toNat < 128) (hd : d.toNat < 128) :
    Meets («bytes.decode» ⟨[.bytes #[a, b, c, d] t, .str (PySem.Str.ofString "ascii") u], []⟩) (fun _ R s => ∀ t' k, R (.ok (.ret (.str ⟨#[a.toNat, b.toNat, c.toNat, d.toNat]⟩ t'))) { s with toks := k }) := by
  refine .of_wp fun prog w A R s h => ?_
  show wpAny _ _ («bytes.decode» ⟨[.bytes (a :: [b, c, d]).toArray t, .str (PySem.Str.ofString "ascii") u], []⟩) _ _ _
  rw [entry_ascii]
  refine wpAny_bind (wpAny_mkStr ?_ (by decide))
  refine wpAny_bind (wpAny_mkStr ?_ (by decide))
  refine wpAny_bind (wpAny_mkStr ?_ (by decide))
  exact wpAny_bind (call_function_meets KBd.kind_text KBd.plain_text KBd.entry_text (KBd.args_text _ _ _ _) (meets_text fun id => run_ascii ha hb hc hd) ⟨by rw [sizeLine_eq]; exact (by decide : 4 ≤ 16777216), wpAny_pure ⟨_, rfl, h _ _⟩⟩)
theorem args_decode_2 (a b : Value) : argsOk "bytes.decode" ⟨[a, b], []⟩ := by
  unfold argsOk; rw [signature?_of (id := "bytes.decode") (n := ['e', 'd', 'o', 'c', 'e', 'd']) (o := ['s', 'e', 't', 'y', 'b']) (by kernel_rfl) FB.owner_bytes]; kernel_rfl
-- translate
theorem slot_translate : Slot "bytes" "translate" "bytes.translate" :=
  .of (owner := "bytes") (n := "translate") (by rw [typeLookup_type, builtinLookup_eq_fast]; kernel_rfl) (by decide +kernel) (by decide +kernel) (by decide +kernel)
    (by first | exact .inl (by decide +kernel) | exact .inr (by decide +kernel)) (by rw [isSubtype_type]; kernel_rfl)
theorem type_translate : typeOf (.builtin "bytes.translate") = pure (.type "method_descriptor") := by show builtinType _ = _; rw [builtinType_eq_fast]; kernel_rfl
theorem entry_translate : entryFor table "bytes.translate" = some Builtin.«bytes.translate» := entryFor_of_tree (by kernel_rfl)
theorem args_translate (a b : Value) : argsOk "bytes.translate" ⟨[a, b], []⟩ := by
  unfold argsOk; rw [signature?_of (id := "bytes.translate") (n := ['e', 't', 'a', 'l', 's', 'n', 'a', 'r', 't']) (o := ['s', 'e', 't', 'y', 'b']) (by kernel_rfl) FB.owner_bytes]; kernel_rfl
theorem meets_translate {b tb : Array UInt8} {t u : Tok} (hs : tb.size = 256) (hb : b.size ≤ 16777216) :
    Meets («bytes.translate» ⟨[.bytes b t, .bytes tb u], []⟩) (fun _ R s => ∀ t' k, R (.ok (.ret (.bytes (b.map fun c => tb.getD c.toNat c) t'))) { s with toks := k }) := by
  refine .of_wp fun prog w A R s h => ?_
  have hf : (b.filter fun c => !(#[] : Array UInt8).contains c) = b := by simp
  unfold «bytes.translate» Bytes.translateM
  show wpAny _ _ (Bytes.bytesLike _ (.bytes tb u) >>= fun t => _) _ _ s
  refine wpAny_bind (wpAny_of_eq KBd.like_eq ?_)
  show wpAny _ _ (if (tb.size != 256) = true then _ else _) _ _ s
  rw [if_neg (by rw [hs]; decide)]
  show wpAny _ _ (pure (some tb) >>= fun r => _) _ _ s
  refine wpAny_bind (wpAny_pure ?_)
  show wpAny _ _ (pure #[] >>= fun r => _) _ _ s
  refine wpAny_bind (wpAny_pure ?_)
  show wpAny _ _ (pure b >>= fun r => _) _ _ s
  refine wpAny_bind (wpAny_pure ?_)
  show wpAny _ _ (if ((Array.map (fun c => tb.getD c.toNat c) (Array.filter (fun x => !(#[] : Array UInt8).contains x) b)) == b) = true then _ else _) _ _ s
  rw [hf]
  by_cases he : ((Array.map (fun c => tb.getD c.toNat c) b) == b) = true
  · rw [if_pos he]
    rw [eq_of_beq he] at h
    refine wpAny_bind (wpAny_rule ?_)
    refine wpAny_bind ?_
    unfold Bytes.Kind.same
    refine wpAny_bind (wpAny_typeOf (typeIs_bytes s b t) ?_)
    exact wpAny_pure (wpAny_pure ⟨_, rfl, h _ _⟩)
  · rw [if_neg he]
    exact wpAny_bind (wpAny_mkBytes (wpAny_pure ⟨_, rfl, h _ _⟩) (by rw [Array.size_map, sizeLine_eq]; exact hb))
-- maketrans
noncomputable def trOf (base ab : Array UInt8) : Array UInt8 := ((#[43, 47] : Array UInt8).toList.zip ab.toList).foldl (fun t (f, x) => t.setIfInBounds f.toNat x) base
noncomputable def trTab (ab : Array UInt8) : Array UInt8 := trOf ((Array.range 256).map (·.toUInt8)) ab
theorem trOf_two (base : Array UInt8) (x y : UInt8) : trOf base #[x, y] = (base.setIfInBounds 43 x).setIfInBounds 47 y := rfl
theorem trTab_size (ab : Array UInt8) : (trTab ab).size = 256 := by
  have : ∀ (l : List (UInt8 × UInt8)) (t : Array UInt8), (l.foldl (fun t (f, x) => t.setIfInBounds f.toNat x) t).size = t.size := by
    intro l
    induction l with
    | nil => intro t; rfl
    | cons p r ih => intro t; rw [List.foldl_cons, ih]; simp
  unfold trTab trOf
  rw [this]
  simp
theorem kind_mk : builtinKind "bytes.maketrans" = some .staticMethod := by decide +kernel
theorem split_mk : splitId "bytes.maketrans" = some ("bytes", "maketrans") := by decide +kernel
theorem plain_mk : plainId "bytes.maketrans" = true := by decide +kernel
theorem entry_mk : entryFor table "bytes.maketrans" = some Builtin.«bytes.maketrans» := entryFor_of_tree (by kernel_rfl)
theorem args_mk (a b : Value) : argsOk "bytes.maketrans" ⟨[a, b], []⟩ := by
  unfold argsOk; rw [signature?_of (id := "bytes.maketrans") (n := ['s', 'n', 'a', 'r', 't', 'e', 'k', 'a', 'm']) (o := ['s', 'e', 't', 'y', 'b']) (by kernel_rfl) FB.owner_bytes]; kernel_rfl
theorem meets_mk {ab : Array UInt8} {t u : Tok} (hs : ab.size = 2) :
    Meets («bytes.maketrans» ⟨[.bytes #[43, 47] t, .bytes ab u], []⟩) (fun _ R s => ∀ t' k, R (.ok (.ret (.bytes (trTab ab) t'))) { s with toks := k }) := by
  refine .of_wp fun prog w A R s h => ?_
  unfold «bytes.maketrans» Bytes.maketransM
  show wpAny _ _ (pure () >>= fun r => _) _ _ s
  refine wpAny_bind (wpAny_pure ?_)
  show wpAny _ _ (pure () >>= fun r => _) _ _ s
  refine wpAny_bind (wpAny_pure ?_)
  show wpAny _ _ (Bytes.bytesLike _ (.bytes #[43, 47] t) >>= fun t => _) _ _ s
  refine wpAny_bind (wpAny_of_eq KBd.like_eq ?_)
  show wpAny _ _ (Bytes.bytesLike _ (.bytes ab u) >>= fun t => _) _ _ s
  refine wpAny_bind (wpAny_of_eq KBd.like_eq ?_)
  show wpAny _ _ (if ((#[43, 47] : Array UInt8).size != ab.size) = true then _ else _) _ _ s
  rw [if_neg (by rw [hs]; decide)]
  exact wpAny_bind (wpAny_mkBytes (wpAny_pure ⟨_, rfl, h _ _⟩) (by show (trTab ab).size ≤ _; rw [trTab_size, sizeLine_eq]; decide))
section
variable {prog : Program} {w : World} {A : Around} {E : Value → Shared → Prop} {s : Shared}
theorem call_static_meets {id owner name : String} {B : Builtin} {args : List Value} {S : PySem.Spec} {Q : Value → Shared → Prop} (kind : builtinKind id = some .staticMethod) (hsp : splitId id = some (owner, name)) (plain : plainId id = true)
    (entry : entryFor table id = some B) (ok : argsOk id ⟨args, []⟩) (g : Meets (B ⟨args, []⟩) S) (h : S A (wants Q E) s) : wpAny (model prog w) A (call (.builtin id) args) Q E s := by
  refine wpAny_call (codeAny_call_builtin plain entry ?_)
  have hfin := g prog w A (wants Q E) s h
  unfold checkBuiltinCall
  rw [kind, hsp]
  unfold argsOk at ok
  dsimp only
  cases hsig : Manifest.signature? id with
  | none => exact wpAny_pure hfin
  | some sig =>
    rw [hsig] at ok
    have h2 : Bind.checkArgs id sig ⟨args, []⟩ = pure () := ok
    show wpAny _ _ (Bind.checkArgs id sig ⟨args, []⟩) _ _ s
    rw [h2]; exact wpAny_pure hfin
theorem call_decode {a b c d : UInt8} {t u : Tok} {Q : Value → Shared → Prop} (ha : a.toNat < 128) (hb : b.toNat < 128) (hc : c.toNat < 128) (hd : d.toNat < 128)
    (h : ∀ t' k, Q (.str ⟨#[a.toNat, b.toNat, c.toNat, d.toNat]⟩ t') { s with toks := k }) : wpAny (model prog w) A (call (.builtin "bytes.decode") [.bytes #[a, b, c, d] t, .str (PySem.Str.ofString "ascii") u]) Q E s :=
  call_meets FB.slot_bytes_decode (typeIs_bytes _ _ _) FB.entry_bytes_decode (args_decode_2 _ _) (meets_decode ha hb hc hd) h
theorem call_translate {b tb : Array UInt8} {t u : Tok} {Q : Value → Shared → Prop} (hs : tb.size = 256) (hb : b.size ≤ 16777216)
    (h : ∀ t' k, Q (.bytes (b.map fun c => tb.getD c.toNat c) t') { s with toks := k }) : wpAny (model prog w) A (call (.builtin "bytes.translate") [.bytes b t, .bytes tb u]) Q E s :=
  call_meets slot_translate (typeIs_bytes _ _ _) entry_translate (args_translate _ _) (meets_translate hs hb) h
theorem call_maketrans {ab : Array UInt8} {t u : Tok} {Q : Value → Shared → Prop} (hs : ab.size = 2)
    (h : ∀ t' k, Q (.bytes (trTab ab) t') { s with toks := k }) : wpAny (model prog w) A (call (.builtin "bytes.maketrans") [.bytes #[43, 47] t, .bytes ab u]) Q E s :=
  call_static_meets kind_mk split_mk plain_mk entry_mk (args_mk _ _) (meets_mk hs) h
theorem method_translate {b : Array UInt8} {t : Tok} {pl : Sem Bool} {Q : Value × List Value → Shared → Prop} (h : Q (.builtin "bytes.translate", [.bytes b t]) s) : wpAny (model prog w) A (getMethod (.bytes b t) (PySem.Str.ofString "translate") pl) Q E s := by
  with_reducible exact KBd.method_of (.bytes b t) (typeIs_bytes _ _ _) slot_translate type_translate KBd.noRef h
theorem method_encode {x : PySem.Str} {t : Tok} {pl : Sem Bool} {Q : Value × List Value → Shared → Prop} (h : Q (.builtin "str.encode", [.str x t]) s) : wpAny (model prog w) A (getMethod (.str x t) (PySem.Str.ofString "encode") pl) Q E s := by
  with_reducible exact GM.of (.str x t) (typeIs_str _ _ _) F.slot_str_encode F.type_str_encode GM.noRef h
-- encode('ascii') of the four altchars
noncomputable def alts : List (PySem.Str × Array UInt8) := [(PySem.Str.ofString "~!", #[126, 33]), (PySem.Str.ofString "+/", #[43, 47]), (PySem.Str.ofString ":;", #[58, 59]), (PySem.Str.ofString "-_", #[45, 95])]
theorem road_enc {id : String} {x : PySem.Str} {t : Tok} : _codecs.encodeRoad id (.str x t) x (PySem.Str.ofString "ascii") none = (_codecs.encodeNarrow id _codecs.asciiCodec none (.str x t) x >>= fun r => mkBytes r) := by kernel_rfl
theorem meets_encode {x : PySem.Str} {y : Array UInt8} {t u : Tok} (hr : ∀ id, _codecs.encodeNarrow id _codecs.asciiCodec none (.str x t) x = pure y) (hy : y.size ≤ 16777216) :
    Meets («str.encode» ⟨[.str x t, .str (PySem.Str.ofString "ascii") u], []⟩) (fun _ R s => ∀ t' k, R (.ok (.ret (.bytes y t'))) { s with toks := k }) := by
  refine .of_wp fun prog w A R s h => ?_
  have e : «str.encode» ⟨[.str x t, .str (PySem.Str.ofString "ascii") u], []⟩ = (_codecs.encodeRoad "str.encode" (.str x t) x (PySem.Str.ofString "ascii") none >>= fun v => ret v) := by kernel_rfl
  rw [e, road_enc, hr]
  refine wpAny_bind (wpAny_bind (wpAny_pure ?_))
  exact wpAny_mkBytes (wpAny_pure ⟨_, rfl, h _ _⟩) (by rw [sizeLine_eq]; exact hy)
theorem enc0 {id : String} {t : Tok} : _codecs.encodeNarrow id _codecs.asciiCodec none (.str (PySem.Str.ofString "~!") t) (PySem.Str.ofString "~!") = pure #[126, 33] := by kernel_rfl
theorem enc1 {id : String} {t : Tok} : _codecs.encodeNarrow id _codecs.asciiCodec none (.str (PySem.Str.ofString "+/") t) (PySem.Str.ofString "+/") = pure #[43, 47] := by kernel_rfl
theorem enc2 {id : String} {t : Tok} : _codecs.encodeNarrow id _codecs.asciiCodec none (.str (PySem.Str.ofString ":;") t) (PySem.Str.ofString ":;") = pure #[58, 59] := by kernel_rfl
theorem enc3 {id : String} {t : Tok} : _codecs.encodeNarrow id _codecs.asciiCodec none (.str (PySem.Str.ofString "-_") t) (PySem.Str.ofString "-_") = pure #[45, 95] := by kernel_rfl
theorem alts_enc {x : PySem.Str} {y : Array UInt8} (h : (x, y) ∈ alts) : (∀ id t, _codecs.encodeNarrow id _codecs.asciiCodec none (.str x t) x = pure y) ∧ y.size = 2 ∧ x.length = 2 := by
  simp only [alts, List.mem_cons, List.not_mem_nil, or_false, Prod.mk.injEq] at h
  rcases h with ⟨rfl, rfl⟩ | ⟨rfl, rfl⟩ | ⟨rfl, rfl⟩ | ⟨rfl, rfl⟩
  · exact ⟨fun _ _ => enc0, rfl, by decide +kernel⟩
  · exact ⟨fun _ _ => enc1, rfl, by decide +kernel⟩
  · exact ⟨fun _ _ => enc2, rfl, by decide +kernel⟩
  · exact ⟨fun _ _ => enc3, rfl, by decide +kernel⟩
theorem call_encode {x : PySem.Str} {y : Array UInt8} {t u : Tok} {Q : Value → Shared → Prop} (hx : (x, y) ∈ alts)
    (h : ∀ t' k, Q (.bytes y t') { s with toks := k }) : wpAny (model prog w) A (call (.builtin "str.encode") [.str x t, .str (PySem.Str.ofString "ascii") u]) Q E s :=
  call_meets F.slot_str_encode (typeIs_str _ _ _) F.entry_str_encode (F.args_str_encode_2 _ _) (meets_encode (fun id => (alts_enc hx).1 id t) (by rw [(alts_enc hx).2.1]; decide)) h
end
-- the plain law of the writing
noncomputable def L62 : List Nat := List.map Char.toNat ['A', 'B', 'C', 'D', 'E', 'F', 'G', 'H', 'I', 'J', 'K', 'L', 'M', 'N', 'O', 'P', 'Q', 'R', 'S', 'T', 'U', 'V', 'W', 'X', 'Y', 'Z', 'a', 'b', 'c', 'd', 'e', 'f', 'g', 'h', 'i', 'j', 'k', 'l', 'm', 'n', 'o', 'p', 'q', 'r', 's', 't', 'u', 'v', 'w', 'x', 'y', 'z', '0', '1', '2', '3', '4', '5', '6', '7', '8', '9']
noncomputable def B64 : List Int := (L62 ++ [43, 47]).map fun c : Nat => (c : Int)
theorem al_app (x : PySem.Str) : (alnum ++ x).cps.toList = L62 ++ x.cps.toList :=
  Array.toList_append.trans (congrArg (fun s : PySem.Str => s.cps.toList ++ x.cps.toList) (PySem.W.Fast.ofString_ofList ['A', 'B', 'C', 'D', 'E', 'F', 'G', 'H', 'I', 'J', 'K', 'L', 'M', 'N', 'O', 'P', 'Q', 'R', 'S', 'T', 'U', 'V', 'W', 'X', 'Y', 'Z', 'a', 'b', 'c', 'd', 'e', 'f', 'g', 'h', 'i', 'j', 'k', 'l', 'm', 'n', 'o', 'p', 'q', 'r', 's', 't', 'u', 'v', 'w', 'x', 'y', 'z', '0', '1', '2', '3', '4', '5', '6', '7', '8', '9']))
theorem al_all : ∀ c ∈ L62, c < 128 ∧ c ≠ 43 ∧ c ≠ 47 := by decide +kernel
theorem tab_at (x y : UInt8) {c : Nat} (hc : c < 256) : ((trTab #[x, y]).getD c 0).toNat = if c = 47 then y.toNat else if c = 43 then x.toNat else c := by
  rw [trTab, trOf_two, Array.getD_eq_getD_getElem?, Array.getElem?_setIfInBounds, Array.getElem?_setIfInBounds, Array.getElem?_map, Array.getElem?_range, Array.size_setIfInBounds, Array.size_map, Array.size_range, if_pos hc]
  by_cases h1 : c = 47
  · rw [if_pos h1.symm, if_pos h1, if_pos (by decide)]
    rfl
  · rw [if_neg (Ne.symm h1), if_neg h1]
    by_cases h2 : c = 43
    · rw [if_pos h2.symm, if_pos h2, if_pos (by decide)]
      rfl
    · rw [if_neg (Ne.symm h2), if_neg h2]
      exact Nat.mod_eq_of_lt hc
theorem alts_two : ∀ p ∈ alts, ∃ a b : UInt8, p.2 = #[a, b] ∧ p.1.cps.toList = [a.toNat, b.toNat] ∧ a.toNat < 128 ∧ b.toNat < 128 := by
  intro p hp
  simp only [alts, List.mem_cons, List.not_mem_nil, or_false] at hp
  rcases hp with rfl | rfl | rfl | rfl
  · exact ⟨126, 33, rfl, by decide +kernel, by decide, by decide⟩
  · exact ⟨43, 47, rfl, by decide +kernel, by decide, by decide⟩
  · exact ⟨58, 59, rfl, by decide +kernel, by decide, by decide⟩
  · exact ⟨45, 95, rfl, by decide +kernel, by decide, by decide⟩
theorem tr_both (p : PySem.Str × Array UInt8) (hp : p ∈ alts) (k : Nat) (hk : k < 64) :
    ((trTab p.2).getD (B64.getD k 0).toNat 0).toNat = (alnum ++ p.1).cps.toList.getD k 0 ∧ (alnum ++ p.1).cps.toList.getD k 0 < 128 := by
  obtain ⟨x, y, e, h2, h3, h4⟩ := alts_two p hp
  rw [al_app, h2, e]
  have hl : L62.length = 62 := rfl
  unfold B64
  simp only [List.getD_eq_getElem?_getD, List.getElem?_map]
  by_cases h : k < L62.length
  · rw [List.getElem?_append_left h, List.getElem?_append_left h, List.getElem?_eq_getElem h]
    obtain ⟨a, b, c⟩ := al_all _ (List.getElem_mem h)
    exact ⟨(tab_at x y (Nat.lt_trans a (by decide))).trans ((if_neg c).trans (if_neg b)), a⟩
  · rw [List.getElem?_append_right (Nat.le_of_not_lt h), List.getElem?_append_right (Nat.le_of_not_lt h)]
    have e2 : k - L62.length < 2 := Nat.sub_lt_left_of_lt_add (Nat.le_of_not_lt h) (hl ▸ hk)
    generalize k - L62.length = j at e2
    match j, e2 with
    | 0, _ => exact ⟨tab_at x y (c := 43) (by decide), h3⟩
    | 1, _ => exact ⟨tab_at x y (c := 47) (by decide), h4⟩
theorem tr_all (p : PySem.Str × Array UInt8) (hp : p ∈ alts) (k : Nat) (hk : k < 64) : ((trTab p.2).getD (B64.getD k 0).toNat 0).toNat = (alnum ++ p.1).cps.toList.getD k 0 := (tr_both p hp k hk).1
theorem tr_eq (p : PySem.Str × Array UInt8) (hp : p ∈ alts) : ((trTab p.2).getD 61 0).toNat = 61 := by
  obtain ⟨x, y, e, _⟩ := alts_two p hp
  rw [e]
  exact tab_at x y (c := 61) (by decide)
theorem tr_lt (p : PySem.Str × Array UInt8) (hp : p ∈ alts) (k : Nat) (hk : k < 64) : (alnum ++ p.1).cps.toList.getD k 0 < 128 := (tr_both p hp k hk).2
end HKx
section HK2x
set_option maxRecDepth 100000
set_option maxHeartbeats 4000000
noncomputable def Wr (alt : Str) (mode : Int) (x0 x1 x2 x3 : UInt8) : Prop := x0.toNat < 128 ∧ x1.toNat < 128 ∧ x2.toNat < 128 ∧ x3.toNat < 128 ∧ (⟨#[x0.toNat, x1.toNat, x2.toNat, x3.toNat]⟩ : Str) = writtenS alt mode
theorem arr4 {r : Array UInt8} {a b c d : Int} (h : KBw.bInts r = [a, b, c, d]) : ∃ w x y z : UInt8, r = #[w, x, y, z] ∧ (w.toNat : Int) = a ∧ (x.toNat : Int) = b ∧ (y.toNat : Int) = c ∧ (z.toNat : Int) = d := by
  obtain ⟨l⟩ := r
  simp only [KBw.bInts] at h
  rcases l with _ | ⟨w, _ | ⟨x, _ | ⟨y, _ | ⟨z, _ | ⟨q, l⟩⟩⟩⟩⟩ <;> simp at h
  exact ⟨w, x, y, z, rfl, h.1, h.2.1, h.2.2.1, h.2.2.2⟩
theorem tr_at {p : Str × Array UInt8} (hp : p ∈ alts) {k : Int} (h0 : 0 ≤ k) (h1 : k < 64) {c : UInt8} (hc : (c.toNat : Int) = B64.getD k.toNat 0) :
    ((trTab p.2).getD c.toNat c).toNat = cAt (alnum ++ p.1) k ∧ ((trTab p.2).getD c.toNat c).toNat < 128 := by
  have e : c.toNat = (B64.getD k.toNat 0).toNat := by rw [← hc]; rfl
  have e1 : (trTab p.2).getD c.toNat c = (trTab p.2).getD c.toNat 0 := by
    have := c.toNat_lt
    rw [Array.getD_eq_getD_getElem?, Array.getD_eq_getD_getElem?, Array.getElem?_eq_getElem (by rw [trTab_size]; exact this)]
    rfl
  have hk : k.toNat < 64 := by (first | lia | omega)
  rw [e1, e, tr_all p hp _ hk]
  exact ⟨rfl, tr_lt p hp _ hk⟩
theorem str4 (a b c d : Nat) : (⟨#[a, b, c, d]⟩ : Str) = ch a ++ ch b ++ ch c ++ ch d := rfl
theorem ch61 : ch 61 = Str.ofString "=" := by decide +kernel
theorem w1024 (m : Int) : m / 256 / 4 = m / 1024 := by rw [Int.ediv_ediv_of_nonneg (by decide)]; rfl
theorem w16n (n : Nat) : n / 256 % 4 * 16 + n % 256 / 16 = n / 16 % 64 := by
  rw [show n % 256 / 16 = n / 16 % 16 from Nat.mod_mul_right_div_self n 16 16, show n / 256 = n / 16 / 16 from (Nat.div_div_eq_div_mul n 16 16).symm,
    show n / 16 % 64 = _ from Nat.mod_mul (a := 16) (b := 4), Nat.mul_comm, Nat.add_comm]
theorem w16 {m : Int} (h0 : 0 ≤ m) : m / 256 % 4 * 16 + m % 256 / 16 = m / 16 % 64 := by
  obtain ⟨n, rfl⟩ := Int.eq_ofNat_of_zero_le h0
  exact congrArg Int.ofNat (w16n n)
theorem w4 (m : Int) : m % 256 % 16 * 4 = m % 16 * 4 := by rw [Int.emod_emod_of_dvd _ (by decide)]
theorem b1024 {m : Int} (h : m < 65536) : m / 1024 < 64 := by omega
theorem b4a (m : Int) : 0 ≤ m % 16 * 4 := by omega
theorem b4b (m : Int) : m % 16 * 4 < 64 := by omega
theorem wr_of {alt : Str} {ab r : Array UInt8} {mode a c : Int} (hp : (alt, ab) ∈ alts) (h0 : 0 ≤ mode) (h1 : mode < 65536) (ha : a = mode / 256) (hc : c = mode % 256)
    (h : KBw.bInts r = [B64.getD (a / 4).toNat 0, B64.getD (a % 4 * 16 + c / 16).toNat 0, B64.getD (c % 16 * 4).toNat 0, 61]) :
    ∃ x0 x1 x2 x3, (r.map fun c => (trTab ab).getD c.toNat c) = #[x0, x1, x2, x3] ∧ Wr alt mode x0 x1 x2 x3 := by
  obtain ⟨w, x, y, z, rfl, hw, hx, hy, hz⟩ := arr4 h
  subst ha hc
  rw [w1024 mode] at hw; rw [w16 h0] at hx; rw [w4 mode] at hy
  have w1 := tr_at hp (Int.ediv_nonneg h0 (by decide)) (b1024 h1) hw
  have x1 := tr_at hp (Int.emod_nonneg _ (by decide)) (Int.emod_lt_of_pos _ (by decide)) hx
  have y1 := tr_at hp (b4a mode) (b4b mode) hy
  have z0 : z = 61 := UInt8.toNat_inj.mp (Int.ofNat.inj hz)
  subst z0
  have z1 : ((trTab ab).getD (61 : UInt8).toNat 61).toNat = 61 := by
    have e : (trTab ab).getD (61 : UInt8).toNat 61 = (trTab ab).getD 61 0 := by
      show (trTab ab).getD 61 61 = _
      rw [Array.getD_eq_getD_getElem?, Array.getD_eq_getD_getElem?, Array.getElem?_eq_getElem (by rw [trTab_size]; decide)]
      rfl
    rw [e, tr_eq _ hp]
  refine ⟨_, _, _, _, List.map_toArray .., w1.2, x1.2, y1.2, by rw [z1]; decide, ?_⟩
  rw [str4, w1.1, x1.1, y1.1, z1, ch61]
  rfl
end HK2x
section HEx
set_option maxRecDepth 100000
set_option maxHeartbeats 8000000
theorem fill6 : (fun (_ : OpenLaw) (_ : Params → Frag) => True) Challenge.rw_nq0079_01 hd.heap_39 := by
  w_top off
  k_fill
  trivial
theorem B64_len : B64.length = 64 := by decide +kernel
theorem bytes_loop {prog : Program} {w : World} {A : Around} {E : Value → Shared → Prop} {s : Shared} {env : Env} {h₀ : Heap} {x : Str} {body : List Stmt} {Q : Flow → Shared → Prop} {b : Array UInt8} {tb : Tok} {ks : List Int} {m₀ : Str → Option Value} {news : List (Addr × Obj)}
    (J : Nat → (Str → Option Value) → List (Addr × Obj) → Prop) (hk : KBw.bInts b = ks) (hh : A.handled = none) (F : Fr h₀ env.locals s.heap m₀) (N : News h₀ env.locals s.heap news) (hj : J 0 m₀ news)
    (turn : ∀ i k t m₁ nx h tk own, ks[i]? = some k → OwnOff own (nx.map (·.1)) → J i m₁ nx → Fr h₀ env.locals h (fun y => if y = x then some (.int k t) else m₁ y) → News h₀ env.locals h (nx ++ own) →
      wpAny (model prog w) A (execs body env) (InvPostG h₀ env.locals (J (i + 1)) own { s with heap := h, toks := tk } Q) E { s with heap := h, toks := tk })
    (done : ∀ m₁ nx h tk, J ks.length m₁ nx → Fr h₀ env.locals h m₁ → News h₀ env.locals h nx → Q .next { s with heap := h, toks := tk }) :
    wpAny (model prog w) A (pyIter (.bytes b tb)) (fun it s₂ => LoopAtV prog w A h₀ env x body Q E it s₂) E s := by
  subst hk
  refine KBw.pyIter_bytes ?_
  refine kdr_loop J (KBw.walks hh s.heap.objs.size b tb) (fun _ h => h) (fun _ h => h) ?_ (by simpa using Nat.ne_of_lt F.ns.lt) (by simpa using next_is_new F) (by simpa using fun a b hp => Nat.ne_of_lt (Heap.lt_size (N (a, b) hp).1)) ⟨_, Heap.get?_push_size _ rfl, rfl, rfl⟩ (F.push _) (fun p hp => ⟨Heap.get?_push_of_some _ (N p hp).1, (N p hp).2⟩) hj ?_ ?_
  · rintro i h ⟨o, st, _⟩ b hb
    rw [List.mem_singleton.mp hb]
    exact ⟨_, st⟩
  · rintro i v m₁ nx h tk own hi ⟨c, u, hc, rfl⟩ hoff hJ F₁ N₁
    exact turn i _ u m₁ nx h tk own (KBw.ints_get hc) hoff hJ F₁ N₁
  · rw [← KBw.ints_length b]
    exact done
inductive B2aI (O : Nat) (news : List (Addr × Obj)) (a c : Int) (i : Nat) (m1 : Str → Option Value) (nx : List (Addr × Obj)) : Prop
  | mk (vs : List Value) (n : Nat) (bits chr : Int) (h1 : nx = (O, listOf vs.toArray n) :: news) (h2 : m1 (Str.ofString "out") = some (.ref O)) (h3 : ∃ t, m1 (Str.ofString "leftbits") = some (.int bits t)) (h4 : ∃ t, m1 (Str.ofString "leftchar") = some (.int chr t)) (h5 : m1 (Str.ofString "newline") = some (.bool false))
    (h6 : (i = 0 ∧ bits = 0 ∧ chr = 0 ∧ IntsAre vs []) ∨ (i = 1 ∧ bits = 2 ∧ chr = a ∧ IntsAre vs [B64.getD (a / 4).toNat 0]) ∨ (i = 2 ∧ bits = 4 ∧ chr = a * 256 + c ∧ IntsAre vs [B64.getD (a / 4).toNat 0, B64.getD (a % 4 * 16 + c / 16).toNat 0]))
inductive BitI (O : Nat) (R : List (Addr × Obj)) (chr b1 b0 : Int) (l1 l0 : List Int) (q : Nat) (m1 : Str → Option Value) (nx : List (Addr × Obj)) : Prop
  | mk (vs' : List Value) (n' : Nat) (h1 : nx = (O, listOf vs'.toArray n') :: R) (h2 : m1 (Str.ofString "out") = some (.ref O)) (h3 : m1 (Str.ofString "newline") = some (.bool false)) (h4 : ∃ t, m1 (Str.ofString "leftchar") = some (.int chr t))
    (h5 : (q = 1 ∧ IntsAre vs' l1 ∧ ∃ t, m1 (Str.ofString "leftbits") = some (.int b1 t)) ∨ (q = 0 ∧ IntsAre vs' l0 ∧ ∃ t, m1 (Str.ofString "leftbits") = some (.int b0 t)))
theorem b2a_ok {w : World} {A₀ : Around} {base h₀ : Heap} {env : Env} {outer : List Env} {L : Addr} {m mg mb : Str → Option Value} {mean : ExcName → Option Value}
   {s : Shared} {news : List (Addr × Obj)} {b : Array UInt8} {a c : Int} {t1 : Tok} {Q : Value → Shared → Prop} {E : Value → Shared → Prop}
   (B : Below A₀ base outer h₀) (X : (hd.heap_39 w.params).In h₀) (T : Top hd.view_39 LS mean mg mb h₀) (F : Fr h₀ L s.heap m) (N : News h₀ L s.heap news)
   (hf : env.frame = some L) (hk : env.scope.kind = .function) (hb : KBw.bInts b = [a, c]) (ha : 0 ≤ a ∧ a < 256) (hc : 0 ≤ c ∧ c < 256)
   (h : ∀ h' tk t' r, Fr h₀ L h' m → News h₀ L h' news → KBw.bInts r = [B64.getD (a / 4).toNat 0, B64.getD (a % 4 * 16 + c / 16).toNat 0, B64.getD (c % 16 * 4).toNat 0, 61] → Q (.bytes r t') { s with heap := h', toks := tk }) :
   wpAny (model prog w) (Ar 303 10 (env :: outer)) (call (.ref 43) [.bytes b t1] [(Str.ofString "newline", .bool false)]) Q E s := by
  refine wpAny_call ?_
  k_with_none
  k_with "subscriptTail" => (k_here; (with_reducible show wpAny _ _ (subscriptTail _ _ (Value.ref _) (Value.int _ _)) _ _ _); k_dflt (refine' row_sub ?k1 ?k2 ?k3 ?k4 ?k5 ?k6 ?_ ?k7 ?k8; (case k1 => k_asm); (case k2 => k_mem); (case k3 => with_reducible assumption); (case k4 => (first | exact Int.natCast_nonneg _ | ((try simp only [shr1]); (first | lia | omega)))); (case k5 => (first | exact Int.ofNat_lt.mpr (by assumption) | ((try simp only [shr1]); (first | lia | omega)))); (case k6 => (first | assumption | ((try simp only [List.length_dropLast, List.length_set]); (first | lia | omega)))); (case k7 => with_unfolding_all rfl); (case k8 => intro _; with_unfolding_all rfl); k_whole); intro _ _ _ _ _ _)
  k_with "compareOp Lt ref ref" => (k_here; k_dflt (refine' lt_rowR ?k1 ?k5 ?k2 ?k3 ?k4 ?_; (case k1 => k_asm); (case k5 => with_reducible assumption); (case k2 => with_reducible assumption); (case k3 => with_reducible assumption); (case k4 => k_units); k_whole))
  k_with "setItem ref int" => (k_here; (with_reducible show wpAny _ _ (setItem (Value.ref _) (Value.int _ _) (Value.ref _)) _ _ _); k_dflt (refine' row_set ?k1 ?k2 ?k3 ?k4 ?k5 ?k6 ?k7 ?k8 ?_; (case k1 => k_asm); (case k2 => k_asm); (case k3 => k_upd); (case k4 => with_reducible assumption); (case k5 => exact ⟨_, _, _, _, rfl, by assumption⟩); (case k6 => (first | exact Int.natCast_nonneg _ | lia | omega)); (case k7 => (first | exact Int.ofNat_lt.mpr (by assumption) | lia | omega)); (case k8 => (first | assumption | ((try simp only [List.length_dropLast, List.length_set]); (first | lia | omega)))); k_whole); intro _ _ _ _; (try k_sweep))
  k_with "call builtin:len" => (k_here; (with_reducible show wpAny _ _ (call (Value.builtin _) [Value.ref _]) _ _ _); k_dflt (refine' row_len ?k1 ?k2 ?k3 ?k4 ?_; (case k1 => k_asm); (case k2 => k_mem); (case k3 => with_reducible assumption); (case k4 => (first | assumption | lia | omega)); k_whole))
  k_with "call builtin:list.pop" => (k_here; (with_reducible show wpAny _ _ (call (Value.builtin _) [Value.ref _]) _ _ _); k_dflt (refine' row_pop ?F ?N ?U ?i ?l ?z ?_; (case F => k_asm); (case N => k_asm); (case U => k_upd); (case i => with_reducible assumption); (case l => (first | assumption | lia | omega)); (case z => (first | assumption | lia | omega)); k_whole); intro _ _ _ _ _ _ _ _ _; (try k_sweep))
  k_with "truthy ref" => (k_here; (with_reducible show wpAny _ _ (truthy (Value.ref _)) _ _ _); k_dflt (refine' row_truthy ?N ?m ?i ?z ?_; (case N => k_asm); (case m => k_mem); (case i => with_reducible assumption); (case z => ((try simp only [List.length_dropLast]); (first | lia | omega))); k_whole))
  k_with "subscriptTail" => (k_here; (with_reducible show wpAny _ _ (subscriptTail _ _ (Value.str _ _) (Value.int _ _)) _ _ _); k_dflt (refine' str_at ?hl ?k4 ?k5 ?k6 ?_ ?k7 ?k8; (case hl => assumption); (case k6 => decide); (case k4 | k5 => ((try simp only [Nat.cast_ofNat, fd2, fd4, fd8, fd16, fd64, fd256, fd512, fd1024, fd2048, fd4096, fd65536, fm2, fm4, fm8, fm16, fm64, fm256, fm512, fm1024, fm2048, fm4096, fm65536, Int.reduceSub, Int.reduceToNat, Int.reducePow, Int.reduceAdd, Int.reduceMul]); (first | exact Int.emod_nonneg _ (by decide) | exact Int.emod_lt_of_pos _ (by decide) | exact Int.ediv_nonneg (by assumption) (by decide) | lia | omega))); (case k7 => with_unfolding_all rfl); (case k8 => intro _; with_unfolding_all rfl); k_whole))
  k_with "subscriptTail Name BinOp str int" => (k_here; (with_reducible show wpAny _ _ (subscriptTail _ _ (Value.str _ _) (Value.int _ _)) _ _ _); k_dflt (refine' str_at ?hl ?k4 ?k5 ?k6 ?_ ?k7 ?k8; (case hl => assumption); (case k6 => decide); (case k4 | k5 => ((try simp only [Nat.cast_ofNat, fd2, fd4, fd8, fd16, fd64, fd256, fd512, fd1024, fd2048, fd4096, fd65536, fm2, fm4, fm8, fm16, fm64, fm256, fm512, fm1024, fm2048, fm4096, fm65536, Int.reduceSub, Int.reduceToNat, Int.reducePow, Int.reduceAdd, Int.reduceMul]); (first | exact Int.emod_nonneg _ (by decide) | exact Int.emod_lt_of_pos _ (by decide) | exact Int.ediv_nonneg (by assumption) (by decide) | lia | omega))); (case k7 => with_unfolding_all rfl); (case k8 => intro _; with_unfolding_all rfl); k_whole))
  k_with "binaryOp Add str str" => (k_here; (with_reducible show wpAny _ _ (binaryOp Operator.Add (Value.str _ _) (Value.str _ _)) _ _ _); (refine add_str (hsz := ?z) ?_); (case z => (rw [sizeLine_eq]; (try simp only [Str.length_append, ch_len, eq_len, lsText_len]); (first | lia | omega))); intro _ _)
  k_with "inplaceOp Add str str" => (k_here; (with_reducible show wpAny _ _ (inplaceOp Operator.Add (Value.str _ _) (Value.str _ _)) _ _ _); (refine iadd_str (hsz := ?z) ?_); (case z => (rw [sizeLine_eq]; (try simp only [Str.length_append, ch_len, eq_len, lsText_len]); (first | lia | omega))); intro _ _)
  k_with "subscriptTail" => (k_here; (with_reducible show wpAny _ _ (subscriptTail (Expr.Tuple _ _ _) _ (Value.ref _) (Value.int _ _)) _ _ _); k_dflt (refine' kim_tup ?N ?m ?c ?d ?lo ?hi ?j ?x ?_ ?k7 ?k8; (case N => k_asm); (case m => exact List.Mem.head _); (case c => rfl); (case d => rfl); (case lo => decide); (case hi => decide); (case j => rfl); (case x => rfl); (case k7 => with_unfolding_all rfl); (case k8 => intro _; with_unfolding_all rfl); k_whole))
  k_with "call type:type" => (k_here; (with_reducible show wpAny _ _ (call (Value.type "type") [Value.bytes _ _]) _ _ _); refine type_bytes ?_)
  k_with "call type:type" => (k_here; (with_reducible show wpAny _ _ (call (Value.type "type") [Value.bool _]) _ _ _); refine type_bool ?_)
  k_with "call builtin:list.append" => (k_here; (with_reducible show wpAny _ _ (call (Value.builtin _) [Value.ref _, _]) _ _ _); k_dflt (refine' app_any ?k1 ?k2 ?k3 ?k4 ?_; (case k1 => k_asm); (case k2 => k_asm); (case k3 => exact Upd.head (by assumption)); (case k4 => (first | lia | omega)); k_whole); intro _ _ _; (try k_sweep))
  k_with "subscriptTail" => (k_here; (with_reducible show wpAny _ _ (subscriptTail _ _ (Value.bytes _ _) (Value.int _ _)) _ _ _); (refine' KBw.item_K (ks := B64) ?hk ?hz ?h0 ?h1 ?_); (case hk => decide +kernel); (case hz => decide +kernel); (case h0 => (first | rw [i63_8 (by (first | lia | omega))] | rw [i63_10 (by (first | lia | omega))] | rw [i15 (by (first | lia | omega))]); (first | lia | omega)); (case h1 => (first | rw [i63_8 (by (first | lia | omega))] | rw [i63_10 (by (first | lia | omega))] | rw [i15 (by (first | lia | omega))]); (rw [B64_len]; (first | lia | omega))); intro _ _ _ _)
  k_with "binaryOp LShift int int" => (k_here; (with_reducible show wpAny _ _ (binaryOp Operator.LShift (Value.int (Builtin.bitAnd _ 15) _) (Value.int 2 _)) _ _ _); (refine' lshift_int_small ?h1 ?h2 ?h3 ?_); (case h1 => (first | (rw [band_mask (by (first | lia | omega)) 4 15 rfl]; (try simp only [Nat.reducePow, Int.cast_ofNat_Int]); (first | lia | omega)) | (first | lia | omega))); (case h2 => (first | (rw [band_mask (by (first | lia | omega)) 4 15 rfl]; (try simp only [Nat.reducePow, Int.cast_ofNat_Int]); (first | lia | omega)) | (first | lia | omega))); (case h3 => (first | (rw [band_mask (by (first | lia | omega)) 4 15 rfl]; (try simp only [Nat.reducePow, Int.cast_ofNat_Int]); (first | lia | omega)) | (first | lia | omega))))
  (refine' code_def ?k1 ?k2 ?k3 ?k4 ?k5 ?kA ?kF ?kK ?k6 ?k7 ?k8 ?k9 ?kB ?_ ?c2 ?c3 ?c4 ?c5; (case kA => exact rfl); (case kF => assumption); (case kK => assumption); (case k1 => k_asm); (case k2 => k_asm); (case k3 => k_asm); (case k4 => k_asm); (case k5 => k_asm); (case k6 => k_is); (case k7 => k_is); (case k8 => k_room); (case k9 => first | exact BindsTo.of_eq rfl | exact binds_K (by k_in) rfl (by k_is) rfl rfl rfl | fail "k_enter: no rule for these arguments"); (case c5 => decide); (case kB => exact locs rfl); (case c2 => exact rfl); (case c3 => exact rfl); (case c4 => exact rfl); k_whole; walk_at "mine in")
  (repeat' ((fail_if_success (with_reducible show wpAny _ _ (exec (Stmt.While _ _ _ _) _) _ _ _)); (fail_if_success (with_reducible show WhileStep2 _ _ _ _ _ _ _ _)); (fail_if_success (with_reducible show wpAny _ _ (pyIter _) _ _ _)); (fail_if_success (with_reducible show InvEndG _ _ _ _ _ _)); (first | (k_unfold; (try dsimp only)) | (k_end; wrow_close) | ((first | with_reducible k_extra "subscriptTail" | walk1); (all_goals try dsimp only)) | (dsimp only; (first | with_reducible k_extra "subscriptTail" | walk1)) | (leave1; walk_say "STEP leave1"; try dsimp only) | fail "no step")))
  rename_i O _ hltO _ _ _ _ h2 F2 N2
  obtain ⟨J, hJ⟩ : ∃ J : Nat → (Str → Option Value) → List (Addr × Obj) → Prop, J = B2aI O news a c := ⟨_, rfl⟩
  refine bytes_loop J hb rfl F2 N2 (by rw [hJ]; exact ⟨[], 0, 0, 0, rfl, rfl, ⟨_, rfl⟩, ⟨_, rfl⟩, rfl, .inl ⟨rfl, rfl, rfl, .nil⟩⟩) ?_ ?_
  · clear F2 N2
    intro i k t m1 nx h3 tk3 own hik hoff hj F3 N3
    rw [hJ] at hj
    obtain ⟨vs, n, bits, chr, rfl, q1, ⟨tb, q2⟩, ⟨tc, q3⟩, q4, hcase⟩ := hj
    have hPo : ∀ p ∈ news ++ own, p.1 ≠ O := by
      intro p hp
      rcases List.mem_append.mp hp with hp | hp
      · exact Nat.ne_of_lt (hltO p hp)
      · exact hoff p hp _ (.head _)
    replace F3 := (((Ov.nil F3).cons (x := Str.ofString "out") ((if_neg (by decide)).trans q1)).cons (x := Str.ofString "leftbits") ((if_neg (by decide)).trans q2)).cons (x := Str.ofString "leftchar") ((if_neg (by decide)).trans q3) |>.cons (x := Str.ofString "newline") ((if_neg (by decide)).trans q4) |>.cons (x := Str.ofString "b") (v := .int k t) (if_pos rfl) |>.fr
    have N4 : News _ _ h3 ((O, listOf vs.toArray n) :: (news ++ own)) := N3
    clear N3
    have hvl : vs.length < 2000 := by rcases hcase with ⟨_, _, _, h⟩ | ⟨_, _, _, h⟩ | ⟨_, _, _, h⟩ <;> rw [h.length] <;> simp
    rcases hcase with ⟨rfl, rfl, rfl, hI⟩ | ⟨rfl, rfl, rfl, hI⟩ | ⟨rfl, rfl, rfl, hI⟩
    · have ek : k = a := by simpa using hik.symm
      subst ek
      with_reducible show wpAny _ _ _ _ _ _
      k_fold
      (repeat' ((fail_if_success (with_reducible show wpAny _ _ (exec (Stmt.While _ _ _ _) _) _ _ _)); (fail_if_success (with_reducible show WhileStep2 _ _ _ _ _ _ _ _)); (fail_if_success (with_reducible show wpAny _ _ (pyIter _) _ _ _)); (fail_if_success (with_reducible show InvEndG _ _ _ _ _ _)); (first | (k_unfold; (try dsimp only)) | (k_end; wrow_close) | ((first | with_reducible k_extra "subscriptTail" | walk1); (all_goals try dsimp only)) | (dsimp only; (first | with_reducible k_extra "subscriptTail" | walk1)) | (leave1; walk_say "STEP leave1"; try dsimp only) | fail "no step")))
      rename_i h4 tk4 h5 F5 N5
      obtain ⟨J2, hJ2⟩ : ∃ J : Nat → (Str → Option Value) → List (Addr × Obj) → Prop, J = BitI O (news ++ own) k 8 2 [] [B64.getD (k / 4).toNat 0] := ⟨_, rfl⟩
      refine While_inv2 (n₀ := 1) J2 F5 N5 ?_ ?_
      · rw [hJ2]
        refine ⟨vs, n, rfl, rfl, rfl, int_at rfl ?_, .inl ⟨rfl, hI, int_at rfl rfl⟩⟩
        rw [lc (by decide) (by decide) ha.1 ha.2]; omega
      · clear F5 N5
        intro q m2 nx h6 tk6 F6 N6 hj2
        rw [hJ2] at hj2
        obtain ⟨vs', n', rfl, q5, q6, ⟨t7, q7⟩, ⟨rfl, hI', t8, q8⟩ | ⟨rfl, hI', t8, q8⟩⟩ := hj2
        · replace F6 := ((((Ov.nil F6).cons q5).cons q6).cons q7).cons q8 |>.fr
          have hvl' : vs'.length < 2000 := by rw [hI'.length]; simp
          (repeat' ((fail_if_success (with_reducible show wpAny _ _ (exec (Stmt.While _ _ _ _) _) _ _ _)); (fail_if_success (with_reducible show WhileStep2 _ _ _ _ _ _ _ _)); (fail_if_success (with_reducible show wpAny _ _ (pyIter _) _ _ _)); (fail_if_success (with_reducible show InvEndG _ _ _ _ _ _)); (first | (k_unfold; (try dsimp only)) | (k_end; wrow_close) | ((first | with_reducible k_extra "subscriptTail" | walk1); (all_goals try dsimp only)) | (dsimp only; (first | with_reducible k_extra "subscriptTail" | walk1)) | (leave1; walk_say "STEP leave1"; try dsimp only) | fail "no step")))
          rename_i tB _ _ _ _ _ F9 N9
          subst hJ2
          dsimp only [WhileStep2]
          refine ⟨_, _, _, _, 0, rfl, F9, N9, by omega, _, n' + 1, rfl, rfl, rfl, ⟨_, rfl⟩, .inr ⟨rfl, ?_, int_at rfl rfl⟩⟩
          rw [i63_8 ha.1, show k / 4 % 64 = k / 4 by omega]
          exact ksk_snoc hI'
        · replace F6 := ((((Ov.nil F6).cons q5).cons q6).cons q7).cons q8 |>.fr
          (repeat' ((fail_if_success (with_reducible show wpAny _ _ (exec (Stmt.While _ _ _ _) _) _ _ _)); (fail_if_success (with_reducible show WhileStep2 _ _ _ _ _ _ _ _)); (fail_if_success (with_reducible show wpAny _ _ (pyIter _) _ _ _)); (fail_if_success (with_reducible show InvEndG _ _ _ _ _ _)); (first | (k_unfold; (try dsimp only)) | (k_end; wrow_close) | ((first | with_reducible k_extra "subscriptTail" | walk1); (all_goals try dsimp only)) | (dsimp only; (first | with_reducible k_extra "subscriptTail" | walk1)) | (leave1; walk_say "STEP leave1"; try dsimp only) | fail "no step")))
          subst hJ
          refine InvEndG.intro F6 N6 (nx := (O, listOf vs'.toArray n') :: news) ⟨vs', n', 2, k, rfl, rfl, ⟨_, rfl⟩, ⟨_, rfl⟩, rfl, .inr (.inl ⟨rfl, rfl, rfl, hI'⟩)⟩ hoff (fun p hp => ?_) (fun p hp => .tail _ (List.mem_append_right _ hp))
          rcases List.mem_cons.mp hp with rfl | hp
          · exact .head _
          · exact .tail _ (List.mem_append_left _ hp)
    · have ek : k = c := by simpa using hik.symm
      subst ek
      with_reducible show wpAny _ _ _ _ _ _
      k_fold
      (repeat' ((fail_if_success (with_reducible show wpAny _ _ (exec (Stmt.While _ _ _ _) _) _ _ _)); (fail_if_success (with_reducible show WhileStep2 _ _ _ _ _ _ _ _)); (fail_if_success (with_reducible show wpAny _ _ (pyIter _) _ _ _)); (fail_if_success (with_reducible show InvEndG _ _ _ _ _ _)); (first | (k_unfold; (try dsimp only)) | (k_end; wrow_close) | ((first | with_reducible k_extra "subscriptTail" | walk1); (all_goals try dsimp only)) | (dsimp only; (first | with_reducible k_extra "subscriptTail" | walk1)) | (leave1; walk_say "STEP leave1"; try dsimp only) | fail "no step")))
      rename_i h4 tk4 h5 F5 N5
      obtain ⟨J2, hJ2⟩ : ∃ J : Nat → (Str → Option Value) → List (Addr × Obj) → Prop, J = BitI O (news ++ own) (chr * 256 + k) 10 4 [B64.getD (chr / 4).toNat 0] [B64.getD (chr / 4).toNat 0, B64.getD (chr % 4 * 16 + k / 16).toNat 0] := ⟨_, rfl⟩
      refine While_inv2 (n₀ := 1) J2 F5 N5 ?_ ?_
      · rw [hJ2]
        refine ⟨vs, n, rfl, rfl, rfl, int_at rfl ?_, .inl ⟨rfl, hI, int_at rfl rfl⟩⟩
        rw [lc ha.1 ha.2 hc.1 hc.2]
      · clear F5 N5
        intro q m2 nx h6 tk6 F6 N6 hj2
        rw [hJ2] at hj2
        obtain ⟨vs', n', rfl, q5, q6, ⟨t7, q7⟩, ⟨rfl, hI', t8, q8⟩ | ⟨rfl, hI', t8, q8⟩⟩ := hj2
        · replace F6 := ((((Ov.nil F6).cons q5).cons q6).cons q7).cons q8 |>.fr
          have hvl' : vs'.length < 2000 := by rw [hI'.length]; simp
          (repeat' ((fail_if_success (with_reducible show wpAny _ _ (exec (Stmt.While _ _ _ _) _) _ _ _)); (fail_if_success (with_reducible show WhileStep2 _ _ _ _ _ _ _ _)); (fail_if_success (with_reducible show wpAny _ _ (pyIter _) _ _ _)); (fail_if_success (with_reducible show InvEndG _ _ _ _ _ _)); (first | (k_unfold; (try dsimp only)) | (k_end; wrow_close) | ((first | with_reducible k_extra "subscriptTail" | walk1); (all_goals try dsimp only)) | (dsimp only; (first | with_reducible k_extra "subscriptTail" | walk1)) | (leave1; walk_say "STEP leave1"; try dsimp only) | fail "no step")))
          rename_i tB _ _ _ _ _ F9 N9
          subst hJ2
          dsimp only [WhileStep2]
          refine ⟨_, _, _, _, 0, rfl, F9, N9, by omega, _, n' + 1, rfl, rfl, rfl, ⟨_, rfl⟩, .inr ⟨rfl, ?_, int_at rfl rfl⟩⟩
          rw [i63_10 (by omega), show (chr * 256 + k) / 16 % 64 = chr % 4 * 16 + k / 16 by omega]
          exact ksk_snoc hI'
        · replace F6 := ((((Ov.nil F6).cons q5).cons q6).cons q7).cons q8 |>.fr
          (repeat' ((fail_if_success (with_reducible show wpAny _ _ (exec (Stmt.While _ _ _ _) _) _ _ _)); (fail_if_success (with_reducible show WhileStep2 _ _ _ _ _ _ _ _)); (fail_if_success (with_reducible show wpAny _ _ (pyIter _) _ _ _)); (fail_if_success (with_reducible show InvEndG _ _ _ _ _ _)); (first | (k_unfold; (try dsimp only)) | (k_end; wrow_close) | ((first | with_reducible k_extra "subscriptTail" | walk1); (all_goals try dsimp only)) | (dsimp only; (first | with_reducible k_extra "subscriptTail" | walk1)) | (leave1; walk_say "STEP leave1"; try dsimp only) | fail "no step")))
          subst hJ
          refine InvEndG.intro F6 N6 (nx := (O, listOf vs'.toArray n') :: news) ⟨vs', n', 4, chr * 256 + k, rfl, rfl, ⟨_, rfl⟩, ⟨_, rfl⟩, rfl, .inr (.inr ⟨rfl, rfl, rfl, hI'⟩)⟩ hoff (fun p hp => ?_) (fun p hp => .tail _ (List.mem_append_right _ hp))
          rcases List.mem_cons.mp hp with rfl | hp
          · exact .head _
          · exact .tail _ (List.mem_append_left _ hp)
    · simp at hik
  · clear F2 N2
    intro m1 nx h3 tk3 hj F3 N3
    rw [hJ] at hj
    obtain ⟨vs, n, bits, chr, rfl, q1, ⟨tb, q2⟩, ⟨tc, q3⟩, q4, hcase⟩ := hj
    clear hJ J
    rcases hcase with ⟨hi, _⟩ | ⟨hi, _⟩ | ⟨_, rfl, rfl, hI⟩
    · simp at hi
    · simp at hi
    have hPo : ∀ p ∈ news, p.1 ≠ O := fun p hp => Nat.ne_of_lt (hltO p hp)
    have hvl : vs.length < 1000 := by rw [hI.length]; simp
    have hvl2 : ∀ v : Value, (vs ++ [v]).length < 2000 := fun v => by rw [List.length_append, List.length_singleton]; omega
    replace F3 := (((Ov.nil F3).cons q1).cons q2).cons q3 |>.cons q4 |>.fr
    (repeat' ((fail_if_success (with_reducible show wpAny _ _ (exec (Stmt.While _ _ _ _) _) _ _ _)); (fail_if_success (with_reducible show WhileStep2 _ _ _ _ _ _ _ _)); (fail_if_success (with_reducible show wpAny _ _ (pyIter _) _ _ _)); (fail_if_success (with_reducible show InvEndG _ _ _ _ _ _)); (first | (k_unfold; (try dsimp only)) | (k_end; wrow_close) | ((first | with_reducible k_extra "subscriptTail" | walk1); (all_goals try dsimp only)) | (dsimp only; (first | with_reducible k_extra "subscriptTail" | walk1)) | (leave1; walk_say "STEP leave1"; try dsimp only) | fail "no step")))
    rename_i _ _ lo3 hi3 _ _ F9 N9
    rw [List.push_toArray] at N9
    rw [i15 (by omega), show (a * 256 + c) % 16 * 4 = c % 16 * 4 by omega] at N9 lo3 hi3
    refine KBa.make_K F9 N9 rfl (PySem.IsL.isList (n := n + 1 + 1) (N9 _ (.head _)).1) (ksk_snoc (ksk_snoc hI)) ?_ (by simp) ?_
    · have hB : ∀ k : Nat, 0 ≤ B64.getD k 0 ∧ B64.getD k 0 < 256 := fun k => KBw.getD_in (by decide +kernel)
      intro x hx
      simp only [List.cons_append, List.nil_append, List.mem_cons, List.not_mem_nil, or_false] at hx
      rcases hx with rfl | rfl | rfl | rfl
      · exact hB _
      · exact hB _
      · exact hB _
      · decide
    · clear F9 N9
      intro h9 t9 k9 F9 N9 hin
      (repeat' ((fail_if_success (with_reducible show wpAny _ _ (exec (Stmt.While _ _ _ _) _) _ _ _)); (fail_if_success (with_reducible show WhileStep2 _ _ _ _ _ _ _ _)); (fail_if_success (with_reducible show wpAny _ _ (pyIter _) _ _ _)); (fail_if_success (with_reducible show InvEndG _ _ _ _ _ _)); (first | (k_unfold; (try dsimp only)) | (k_end; wrow_close) | ((first | with_reducible k_extra "subscriptTail" | walk1); (all_goals try dsimp only)) | (dsimp only; (first | with_reducible k_extra "subscriptTail" | walk1)) | (leave1; walk_say "STEP leave1"; try dsimp only) | fail "no step")))
      rename_i F10 N10 _ _
      exact h _ _ _ _ F10 (news_of N10 fun p hp => .tail _ hp) (KBa.ints_make hin)
end HEx
section HXx
set_option maxRecDepth 100000
set_option maxHeartbeats 8000000
theorem fill7 : (fun (_ : OpenLaw) (_ : Params → Frag) => True) Challenge.rw_nq0079_01 hd.heap_39 := by
  w_top off
  k_fill
  trivial
theorem b4size {r : Array UInt8} {a b c d : Int} (h : KBw.bInts r = [a, b, c, d]) : r.size ≤ 16777216 := by
  rw [← KBw.ints_length, h]; exact (by decide : 4 ≤ 16777216)
theorem b64_ok {w : World} {A₀ : Around} {base h₀ : Heap} {env : Env} {outer : List Env} {L : Addr} {m mg mb : Str → Option Value} {mean : ExcName → Option Value}
   {s : Shared} {news : List (Addr × Obj)} {b ab : Array UInt8} {alt : Str} {mode a c : Int} {t1 t2 : Tok} {Q : Value → Shared → Prop} {E : Value → Shared → Prop}
   (B : Below A₀ base outer h₀) (X : (hd.heap_39 w.params).In h₀) (T : Top hd.view_39 LS mean mg mb h₀) (F : Fr h₀ L s.heap m) (N : News h₀ L s.heap news)
   (hf : env.frame = some L) (hk : env.scope.kind = .function) (hb : KBw.bInts b = [a, c]) (h0 : 0 ≤ mode) (h1 : mode < 65536) (ea : a = mode / 256) (ec : c = mode % 256) (hp : (alt, ab) ∈ alts)
   (h : ∀ h' tk t' x0 x1 x2 x3, Fr h₀ L h' m → News h₀ L h' news → Wr alt mode x0 x1 x2 x3 → Q (.bytes #[x0, x1, x2, x3] t') { s with heap := h', toks := tk }) :
   wpAny (model prog w) (Ar 302 7 (env :: outer)) (call (.ref 51) [.bytes b t1, .bytes ab t2]) Q E s := by
  have ha' : 0 ≤ a ∧ a < 256 := by (first | lia | omega)
  have hc' : 0 ≤ c ∧ c < 256 := by (first | lia | omega)
  have hab : ab.size = 2 := (alts_enc hp).2.1
  refine wpAny_call ?_
  k_with_none
  k_with "subscriptTail" => (k_here; (with_reducible show wpAny _ _ (subscriptTail _ _ (Value.ref _) (Value.int _ _)) _ _ _); k_dflt (refine' row_sub ?k1 ?k2 ?k3 ?k4 ?k5 ?k6 ?_ ?k7 ?k8; (case k1 => k_asm); (case k2 => k_mem); (case k3 => with_reducible assumption); (case k4 => (first | exact Int.natCast_nonneg _ | ((try simp only [shr1]); (first | lia | omega)))); (case k5 => (first | exact Int.ofNat_lt.mpr (by assumption) | ((try simp only [shr1]); (first | lia | omega)))); (case k6 => (first | assumption | ((try simp only [List.length_dropLast, List.length_set]); (first | lia | omega)))); (case k7 => with_unfolding_all rfl); (case k8 => intro _; with_unfolding_all rfl); k_whole); intro _ _ _ _ _ _)
  k_with "compareOp Lt ref ref" => (k_here; k_dflt (refine' lt_rowR ?k1 ?k5 ?k2 ?k3 ?k4 ?_; (case k1 => k_asm); (case k5 => with_reducible assumption); (case k2 => with_reducible assumption); (case k3 => with_reducible assumption); (case k4 => k_units); k_whole))
  k_with "setItem ref int" => (k_here; (with_reducible show wpAny _ _ (setItem (Value.ref _) (Value.int _ _) (Value.ref _)) _ _ _); k_dflt (refine' row_set ?k1 ?k2 ?k3 ?k4 ?k5 ?k6 ?k7 ?k8 ?_; (case k1 => k_asm); (case k2 => k_asm); (case k3 => k_upd); (case k4 => with_reducible assumption); (case k5 => exact ⟨_, _, _, _, rfl, by assumption⟩); (case k6 => (first | exact Int.natCast_nonneg _ | lia | omega)); (case k7 => (first | exact Int.ofNat_lt.mpr (by assumption) | lia | omega)); (case k8 => (first | assumption | ((try simp only [List.length_dropLast, List.length_set]); (first | lia | omega)))); k_whole); intro _ _ _ _; (try k_sweep))
  k_with "call builtin:len" => (k_here; (with_reducible show wpAny _ _ (call (Value.builtin _) [Value.ref _]) _ _ _); k_dflt (refine' row_len ?k1 ?k2 ?k3 ?k4 ?_; (case k1 => k_asm); (case k2 => k_mem); (case k3 => with_reducible assumption); (case k4 => (first | assumption | lia | omega)); k_whole))
  k_with "call builtin:list.pop" => (k_here; (with_reducible show wpAny _ _ (call (Value.builtin _) [Value.ref _]) _ _ _); k_dflt (refine' row_pop ?F ?N ?U ?i ?l ?z ?_; (case F => k_asm); (case N => k_asm); (case U => k_upd); (case i => with_reducible assumption); (case l => (first | assumption | lia | omega)); (case z => (first | assumption | lia | omega)); k_whole); intro _ _ _ _ _ _ _ _ _; (try k_sweep))
  k_with "truthy ref" => (k_here; (with_reducible show wpAny _ _ (truthy (Value.ref _)) _ _ _); k_dflt (refine' row_truthy ?N ?m ?i ?z ?_; (case N => k_asm); (case m => k_mem); (case i => with_reducible assumption); (case z => ((try simp only [List.length_dropLast]); (first | lia | omega))); k_whole))
  k_with "subscriptTail" => (k_here; (with_reducible show wpAny _ _ (subscriptTail _ _ (Value.str _ _) (Value.int _ _)) _ _ _); k_dflt (refine' str_at ?hl ?k4 ?k5 ?k6 ?_ ?k7 ?k8; (case hl => assumption); (case k6 => decide); (case k4 | k5 => ((try simp only [Nat.cast_ofNat, fd2, fd4, fd8, fd16, fd64, fd256, fd512, fd1024, fd2048, fd4096, fd65536, fm2, fm4, fm8, fm16, fm64, fm256, fm512, fm1024, fm2048, fm4096, fm65536, Int.reduceSub, Int.reduceToNat, Int.reducePow, Int.reduceAdd, Int.reduceMul]); (first | exact Int.emod_nonneg _ (by decide) | exact Int.emod_lt_of_pos _ (by decide) | exact Int.ediv_nonneg (by assumption) (by decide) | lia | omega))); (case k7 => with_unfolding_all rfl); (case k8 => intro _; with_unfolding_all rfl); k_whole))
  k_with "subscriptTail Name BinOp str int" => (k_here; (with_reducible show wpAny _ _ (subscriptTail _ _ (Value.str _ _) (Value.int _ _)) _ _ _); k_dflt (refine' str_at ?hl ?k4 ?k5 ?k6 ?_ ?k7 ?k8; (case hl => assumption); (case k6 => decide); (case k4 | k5 => ((try simp only [Nat.cast_ofNat, fd2, fd4, fd8, fd16, fd64, fd256, fd512, fd1024, fd2048, fd4096, fd65536, fm2, fm4, fm8, fm16, fm64, fm256, fm512, fm1024, fm2048, fm4096, fm65536, Int.reduceSub, Int.reduceToNat, Int.reducePow, Int.reduceAdd, Int.reduceMul]); (first | exact Int.emod_nonneg _ (by decide) | exact Int.emod_lt_of_pos _ (by decide) | exact Int.ediv_nonneg (by assumption) (by decide) | lia | omega))); (case k7 => with_unfolding_all rfl); (case k8 => intro _; with_unfolding_all rfl); k_whole))
  k_with "binaryOp Add str str" => (k_here; (with_reducible show wpAny _ _ (binaryOp Operator.Add (Value.str _ _) (Value.str _ _)) _ _ _); (refine add_str (hsz := ?z) ?_); (case z => (rw [sizeLine_eq]; (try simp only [Str.length_append, ch_len, eq_len, lsText_len]); (first | lia | omega))); intro _ _)
  k_with "inplaceOp Add str str" => (k_here; (with_reducible show wpAny _ _ (inplaceOp Operator.Add (Value.str _ _) (Value.str _ _)) _ _ _); (refine iadd_str (hsz := ?z) ?_); (case z => (rw [sizeLine_eq]; (try simp only [Str.length_append, ch_len, eq_len, lsText_len]); (first | lia | omega))); intro _ _)
  k_with "subscriptTail" => (k_here; (with_reducible show wpAny _ _ (subscriptTail (Expr.Tuple _ _ _) _ (Value.ref _) (Value.int _ _)) _ _ _); k_dflt (refine' kim_tup ?N ?m ?c ?d ?lo ?hi ?j ?x ?_ ?k7 ?k8; (case N => k_asm); (case m => exact List.Mem.head _); (case c => rfl); (case d => rfl); (case lo => decide); (case hi => decide); (case j => rfl); (case x => rfl); (case k7 => with_unfolding_all rfl); (case k8 => intro _; with_unfolding_all rfl); k_whole))
  k_with "call ref" => (k_here; (with_reducible show wpAny _ _ (call (Value.ref 43) _ _) _ _ _); k_dflt (refine' b2a_ok ?k1 ?k2 ?k3 ?k4 ?k5 ?k6 ?k7 ?k8 ?k9 ?kA ?_; (case k1 => k_asm); (case k2 => k_asm); (case k3 => k_asm); (case k4 => k_asm); (case k5 => k_asm); (case k6 => exact rfl); (case k7 => exact rfl); (case k8 => assumption); (case k9 => assumption); (case kA => assumption); k_whole); intro _ _ _ _ _ _ _; (try k_sweep))
  k_with "getMethod bytes" => (k_here; (with_reducible refine method_translate ?_))
  k_with "getMethod type:bytes" => (k_here; refine' method_type ?F ?X ?m (by decide +kernel) ?e ?h ?_; (case F => k_asm); (case X => k_asm); (case m => (first | rfl | kernel_rfl)); (case e => k_dflt k_is); (case h => k_handed))
  k_with "call builtin:bytes.maketrans" => (k_here; (refine call_maketrans ?hs ?_); (case hs => assumption); intro _ _)
  k_with "call builtin:bytes.translate" => (k_here; (refine call_translate ?hs ?hz ?_); (case hs => exact trTab_size _); (case hz => (apply b4size; assumption)); intro _ _)
  (refine' code_def ?k1 ?k2 ?k3 ?k4 ?k5 ?kA ?kF ?kK ?k6 ?k7 ?k8 ?k9 ?kB ?_ ?c2 ?c3 ?c4 ?c5; (case kA => exact rfl); (case kF => assumption); (case kK => assumption); (case k1 => k_asm); (case k2 => k_asm); (case k3 => k_asm); (case k4 => k_asm); (case k5 => k_asm); (case k6 => k_is); (case k7 => k_is); (case k8 => k_room); (case k9 => first | exact BindsTo.of_eq rfl | exact binds_K (by k_in) rfl (by k_is) rfl rfl rfl | fail "k_enter: no rule for these arguments"); (case c5 => decide); (case kB => exact locs rfl); (case c2 => exact rfl); (case c3 => exact rfl); (case c4 => exact rfl); k_whole; walk_at "mine in")
  (repeat' ((fail_if_success (with_reducible show wpAny _ _ (exec (Stmt.While _ _ _ _) _) _ _ _)); (fail_if_success (with_reducible show WhileStep2 _ _ _ _ _ _ _ _)); (fail_if_success (with_reducible show wpAny _ _ (pyIter _) _ _ _)); (fail_if_success (with_reducible show InvEndG _ _ _ _ _ _)); (first | (k_unfold; (try dsimp only)) | (k_end; wrow_close) | ((first | with_reducible k_extra "subscriptTail" | walk1); (all_goals try dsimp only)) | (dsimp only; (first | with_reducible k_extra "subscriptTail" | walk1)) | (leave1; walk_say "STEP leave1"; try dsimp only) | fail "no step")))
  · rename_i F9 N9 _ _
    obtain ⟨x0, x1, x2, x3, e, hw⟩ := wr_of hp h0 h1 ea ec (by assumption)
    rw [e]
    exact h _ _ _ _ _ _ _ F9 N9 hw
  · exfalso; (first | lia | omega)
end HXx
section HJx
set_option maxRecDepth 100000
set_option maxHeartbeats 8000000
section
variable {prog : Program} {w : World} {A : Around} {E : Value → Shared → Prop} {s : Shared} {h₀ : Heap} {L D : Addr} {news : List (Addr × Obj)}
theorem alt_at {value slice : PySem.Expr} {k : Int} {u t0 t1 t2 t3 : Tok} {Q : Value → Shared → Prop} (N : News h₀ L s.heap news)
    (hm : (D, ({ cls := .type "tuple", data := .seq #[.str (Str.ofString "~!") t0, .str (Str.ofString "+/") t1, .str (Str.ofString ":;") t2, .str (Str.ofString "-_") t3] } : Obj)) ∈ news) (h0 : 0 ≤ k) (h1 : k < 4)
    (h : ∀ alt ab t', (alt, ab) ∈ alts → Q (.str alt t') s)
    (hs : subscripted slice false (.ref D) (.int k u) = operate [.ref D, .int k u] (getItem (.ref D) (.int k u)) := by with_unfolding_all rfl) :
    wpAny (model prog w) A (subscriptTail value slice (.ref D) (.int k u)) Q E s := by
  rcases (by (first | lia | omega) : k = 0 ∨ k = 1 ∨ k = 2 ∨ k = 3) with rfl | rfl | rfl | rfl
  · exact item_tupleT (l := [.str (Str.ofString "~!") t0, .str (Str.ofString "+/") t1, .str (Str.ofString ":;") t2, .str (Str.ofString "-_") t3]) ⟨_, (N _ hm).1, rfl, _, rfl⟩ (by decide) (by decide) rfl rfl (h _ _ _ (.head _)) hs
  · exact item_tupleT (l := [.str (Str.ofString "~!") t0, .str (Str.ofString "+/") t1, .str (Str.ofString ":;") t2, .str (Str.ofString "-_") t3]) ⟨_, (N _ hm).1, rfl, _, rfl⟩ (by decide) (by decide) rfl rfl (h _ _ _ (.tail _ (.head _))) hs
  · exact item_tupleT (l := [.str (Str.ofString "~!") t0, .str (Str.ofString "+/") t1, .str (Str.ofString ":;") t2, .str (Str.ofString "-_") t3]) ⟨_, (N _ hm).1, rfl, _, rfl⟩ (by decide) (by decide) rfl rfl (h _ _ _ (.tail _ (.tail _ (.head _)))) hs
  · exact item_tupleT (l := [.str (Str.ofString "~!") t0, .str (Str.ofString "+/") t1, .str (Str.ofString ":;") t2, .str (Str.ofString "-_") t3]) ⟨_, (N _ hm).1, rfl, _, rfl⟩ (by decide) (by decide) rfl rfl (h _ _ _ (.tail _ (.tail _ (.tail _ (.head _))))) hs
theorem bytes2 {m : Str → Option Value} {a c : Int} {ta tc : Tok} {n : Nat} {Q : Value → Shared → Prop} (F : Fr h₀ L s.heap m) (N : News h₀ L s.heap news) (hh : A.handled = none) (hm : (D, W.listOf #[.int a ta, .int c tc] n) ∈ news)
    (ha : 0 ≤ a ∧ a < 256) (hc : 0 ≤ c ∧ c < 256) (h : ∀ h' t' k b, Fr h₀ L h' m → News h₀ L h' news → KBw.bInts b = [a, c] → Q (.bytes b t') { s with heap := h', toks := k }) :
    wpAny (model prog w) A (call (.type "bytes") [.ref D]) Q E s := by
  have hi : IntsAre [Value.int a ta, Value.int c tc] [a, c] := ksk_snoc (vs := [Value.int a ta]) (ns := [a]) (ksk_snoc (vs := []) (ns := []) .nil)
  refine KBa.make_K (vs := [.int a ta, .int c tc]) (ns := [a, c]) F N hh (PySem.IsL.isList (n := n) (N _ hm).1) hi ?_ (by simp) fun h' t' k F' N' hin => h h' t' k _ F' N' (KBa.ints_make hin)
  intro x hx
  simp only [List.mem_cons, List.not_mem_nil, or_false] at hx
  rcases hx with rfl | rfl
  · exact ha
  · exact hc
theorem call_decodeW {x0 x1 x2 x3 : UInt8} {alt : Str} {mode : Int} {t u : Tok} {Q : Value → Shared → Prop} (hw : Wr alt mode x0 x1 x2 x3)
    (h : ∀ t' k, Q (.str (writtenS alt mode) t') { s with toks := k }) : wpAny (model prog w) A (call (.builtin "bytes.decode") [.bytes #[x0, x1, x2, x3] t, .str (PySem.Str.ofString "ascii") u]) Q E s := by
  obtain ⟨a, b, c, d, e⟩ := hw
  refine call_decode a b c d ?_
  rw [e]
  exact h
end
theorem modes_ok {ws : List Value} {l : List Int} {f : Int → Int} (h : IntsAre ws ([4480, 17407, 17376, 33188, 41471, 49645] ++ List.map (fun k' => k'.fmod 65536) (List.drop 1 (List.map f (List.take 6 l))))) :
    ∃ modes, IntsAre ws modes ∧ (∀ x ∈ modes, 0 ≤ x ∧ x < 65536) ∧ 2 ≤ modes.length ∧ modes.length < 60 := by
  refine ⟨_, h, ?_, ?_, ?_⟩
  · intro x hx
    rcases List.mem_append.mp hx with hx | hx
    · simp only [List.mem_cons, List.not_mem_nil, or_false] at hx
      (first | lia | omega)
    · obtain ⟨y, _, rfl⟩ := List.mem_map.mp hx
      rw [fm65536]
      (first | lia | omega)
  · simp only [List.length_append, List.length_cons]
    (first | lia | omega)
  · simp only [List.length_append, List.length_cons, List.length_map, List.length_drop, List.length_take, List.length_nil]
    (first | lia | omega)
theorem rowsOf_len (alt : Str) (modes : List Int) : (rowsOf alt modes).length = modes.length := by simp [rowsOf]
theorem kinds_lt : ∀ k < 16, (Str.ofString "?pc?d?b?-?l?s???").cps.toList.getD k 0 < 126 := by decide +kernel
theorem cps_app (x y : Str) : (x ++ y).cps.toList = x.cps.toList ++ y.cps.toList := Array.toList_append
theorem ls_head (mode : Int) : ∀ i, ∃ t, (lsText mode i).cps.toList = cAt (Str.ofString "?pc?d?b?-?l?s???") (mode / 4096) :: t
  | 0 => ⟨[], rfl⟩
  | i + 1 => by
    obtain ⟨t, h⟩ := ls_head mode i
    rw [lsText, lsStep, cps_app, cps_app, h]
    exact ⟨_, rfl⟩
theorem tilde_cps : tilde.cps.toList = [126] := by decide +kernel
theorem rows_tilde (alt : Str) {modes : List Int} (h : ∀ x ∈ modes, 0 ≤ x ∧ x < 65536) : ∀ r ∈ rowsOf alt modes, strLt r.l tilde = true := by
  intro r hr
  unfold rowsOf at hr
  obtain ⟨p, hp, rfl⟩ := List.mem_map.mp hr
  obtain ⟨h0, h1⟩ := h _ (List.fst_mem_of_mem_zipIdx hp)
  obtain ⟨t, e⟩ := ls_head p.1 3
  have hk := kinds_lt (p.1 / 4096).toNat (by (first | lia | omega))
  refine decide_eq_true ?_
  show (lsText p.1 3).cps.toList < _
  rw [e, tilde_cps]
  exact List.Lex.rel hk
inductive LawI (P D : Nat) (rest : List (Addr × Obj)) (alt : Str) (ta : Tok) (modes : List Int) (i : Nat) (m1 : Str → Option Value) (nx : List (Addr × Obj)) : Prop
  | mk (vs : List Value) (n : Nat) (tups : List (Addr × Obj)) (h1 : nx = (P, W.listOf vs.toArray n) :: (tups ++ rest)) (h2 : ∀ p ∈ tups, p.1 ≠ P) (h3 : RowsIn tups vs ((rowsOf alt modes).take i))
    (h4 : m1 (Str.ofString "pile") = some (Value.ref P)) (h5 : m1 (Str.ofString "modes") = some (Value.ref D)) (h6 : m1 (Str.ofString "altchars") = some (Value.str alt ta))
theorem LawI.has {P D : Nat} {rest : List (Addr × Obj)} {alt : Str} {ta : Tok} {modes : List Int} {i : Nat} {m1 : Str → Option Value} {nx : List (Addr × Obj)} {e : Addr × Obj} (h : LawI P D rest alt ta modes i m1 nx) (he : e ∈ rest) : e ∈ nx := by
  obtain ⟨vs, n, tups, rfl, _⟩ := h
  exact .tail _ (List.mem_append_right _ he)
theorem led_ok {h₀ h : Heap} {L P D a1 a2 a3 a4 a5 a6 a7 a8 : Addr} {ws : List Value} {o1 o2 o3 o4 o5 o6 o7 o8 : Obj}
    (N : News h₀ L h [(P, W.listOf #[] 0), (D, W.listOf ws.toArray 0), (a1, o1), (a2, o2), (a3, o3), (a4, o4), (a5, o5), (a6, o6), (a7, o7), (a8, o8)])
    (l : D < P ∧ a1 < P ∧ a2 < P ∧ a3 < P ∧ a4 < P ∧ a5 < P ∧ a6 < P ∧ a7 < P ∧ a8 < P) :
    ∃ rest : List (Addr × Obj), News h₀ L h ((P, W.listOf ([] : List Value).toArray 0) :: rest) ∧ (D, W.listOf ws.toArray 0) ∈ rest ∧ (∀ q ∈ rest, q.1 ≠ P) := by
  refine ⟨_, N, .head _, ?_⟩
  intro q hq
  simp only [List.mem_cons, List.not_mem_nil, or_false] at hq
  obtain ⟨l1, l2, l3, l4, l5, l6, l7, l8, l9⟩ := l
  rcases hq with rfl | rfl | rfl | rfl | rfl | rfl | rfl | rfl | rfl
  · exact Nat.ne_of_lt l1
  · exact Nat.ne_of_lt l2
  · exact Nat.ne_of_lt l3
  · exact Nat.ne_of_lt l4
  · exact Nat.ne_of_lt l5
  · exact Nat.ne_of_lt l6
  · exact Nat.ne_of_lt l7
  · exact Nat.ne_of_lt l8
  · exact Nat.ne_of_lt l9
theorem law_holds : Challenge.rw_nq0079_01.Holds := hd (by
  k_go0
  all_goals try k_fold
  with_reducible show wpAny _ _ _ _ _ _
  k_fold
  k_with_none
  k_with "subscriptTail" => (k_here; (with_reducible show wpAny _ _ (subscriptTail _ _ (Value.ref _) (Value.int _ _)) _ _ _); k_dflt (refine' row_sub ?k1 ?k2 ?k3 ?k4 ?k5 ?k6 ?_ ?k7 ?k8; (case k1 => k_asm); (case k2 => k_mem); (case k3 => with_reducible assumption); (case k4 => (first | exact Int.natCast_nonneg _ | ((try simp only [shr1]); (first | lia | omega)))); (case k5 => (first | exact Int.ofNat_lt.mpr (by assumption) | ((try simp only [shr1]); (first | lia | omega)))); (case k6 => (first | assumption | ((try simp only [List.length_dropLast, List.length_set]); (first | lia | omega)))); (case k7 => with_unfolding_all rfl); (case k8 => intro _; with_unfolding_all rfl); k_whole); intro _ _ _ _ _ _)
  k_with "compareOp Lt ref ref" => (k_here; k_dflt (refine' lt_rowR ?k1 ?k5 ?k2 ?k3 ?k4 ?_; (case k1 => k_asm); (case k5 => with_reducible assumption); (case k2 => with_reducible assumption); (case k3 => with_reducible assumption); (case k4 => k_units); k_whole))
  k_with "setItem ref int" => (k_here; (with_reducible show wpAny _ _ (setItem (Value.ref _) (Value.int _ _) (Value.ref _)) _ _ _); k_dflt (refine' row_set ?k1 ?k2 ?k3 ?k4 ?k5 ?k6 ?k7 ?k8 ?_; (case k1 => k_asm); (case k2 => k_asm); (case k3 => k_upd); (case k4 => with_reducible assumption); (case k5 => exact ⟨_, _, _, _, rfl, by assumption⟩); (case k6 => (first | exact Int.natCast_nonneg _ | lia | omega)); (case k7 => (first | exact Int.ofNat_lt.mpr (by assumption) | lia | omega)); (case k8 => (first | assumption | ((try simp only [List.length_dropLast, List.length_set]); (first | lia | omega)))); k_whole); intro _ _ _ _; (try k_sweep))
  k_with "call builtin:len" => (k_here; (with_reducible show wpAny _ _ (call (Value.builtin _) [Value.ref _]) _ _ _); k_dflt (refine' row_len ?k1 ?k2 ?k3 ?k4 ?_; (case k1 => k_asm); (case k2 => k_mem); (case k3 => with_reducible assumption); (case k4 => (first | assumption | lia | omega)); k_whole))
  k_with "call builtin:list.pop" => (k_here; (with_reducible show wpAny _ _ (call (Value.builtin _) [Value.ref _]) _ _ _); k_dflt (refine' row_pop ?F ?N ?U ?i ?l ?z ?_; (case F => k_asm); (case N => k_asm); (case U => k_upd); (case i => with_reducible assumption); (case l => (first | assumption | lia | omega)); (case z => (first | assumption | lia | omega)); k_whole); intro _ _ _ _ _ _ _ _ _; (try k_sweep))
  k_with "truthy ref" => (k_here; (with_reducible show wpAny _ _ (truthy (Value.ref _)) _ _ _); k_dflt (refine' row_truthy ?N ?m ?i ?z ?_; (case N => k_asm); (case m => k_mem); (case i => with_reducible assumption); (case z => ((try simp only [List.length_dropLast]); (first | lia | omega))); k_whole))
  k_with "subscriptTail" => (k_here; (with_reducible show wpAny _ _ (subscriptTail _ _ (Value.str _ _) (Value.int _ _)) _ _ _); k_dflt (refine' str_at ?hl ?k4 ?k5 ?k6 ?_ ?k7 ?k8; (case hl => assumption); (case k6 => decide); (case k4 | k5 => ((try simp only [Nat.cast_ofNat, fd2, fd4, fd8, fd16, fd64, fd256, fd512, fd1024, fd2048, fd4096, fd65536, fm2, fm4, fm8, fm16, fm64, fm256, fm512, fm1024, fm2048, fm4096, fm65536, Int.reduceSub, Int.reduceToNat, Int.reducePow, Int.reduceAdd, Int.reduceMul]); (first | exact Int.emod_nonneg _ (by decide) | exact Int.emod_lt_of_pos _ (by decide) | exact Int.ediv_nonneg (by assumption) (by decide) | lia | omega))); (case k7 => with_unfolding_all rfl); (case k8 => intro _; with_unfolding_all rfl); k_whole))
  k_with "subscriptTail Name BinOp str int" => (k_here; (with_reducible show wpAny _ _ (subscriptTail _ _ (Value.str _ _) (Value.int _ _)) _ _ _); k_dflt (refine' str_at ?hl ?k4 ?k5 ?k6 ?_ ?k7 ?k8; (case hl => assumption); (case k6 => decide); (case k4 | k5 => ((try simp only [Nat.cast_ofNat, fd2, fd4, fd8, fd16, fd64, fd256, fd512, fd1024, fd2048, fd4096, fd65536, fm2, fm4, fm8, fm16, fm64, fm256, fm512, fm1024, fm2048, fm4096, fm65536, Int.reduceSub, Int.reduceToNat, Int.reducePow, Int.reduceAdd, Int.reduceMul]); (first | exact Int.emod_nonneg _ (by decide) | exact Int.emod_lt_of_pos _ (by decide) | exact Int.ediv_nonneg (by assumption) (by decide) | lia | omega))); (case k7 => with_unfolding_all rfl); (case k8 => intro _; with_unfolding_all rfl); k_whole))
  k_with "binaryOp Add str str" => (k_here; (with_reducible show wpAny _ _ (binaryOp Operator.Add (Value.str _ _) (Value.str _ _)) _ _ _); (refine add_str (hsz := ?z) ?_); (case z => (rw [sizeLine_eq]; (try simp only [Str.length_append, ch_len, eq_len, lsText_len]); (first | lia | omega))); intro _ _)
  k_with "inplaceOp Add str str" => (k_here; (with_reducible show wpAny _ _ (inplaceOp Operator.Add (Value.str _ _) (Value.str _ _)) _ _ _); (refine iadd_str (hsz := ?z) ?_); (case z => (rw [sizeLine_eq]; (try simp only [Str.length_append, ch_len, eq_len, lsText_len]); (first | lia | omega))); intro _ _)
  k_with "subscriptTail" => (k_here; (with_reducible show wpAny _ _ (subscriptTail (Expr.Tuple _ _ _) _ (Value.ref _) (Value.int _ _)) _ _ _); k_dflt (refine' kim_tup ?N ?m ?c ?d ?lo ?hi ?j ?x ?_ ?k7 ?k8; (case N => k_asm); (case m => exact List.Mem.head _); (case c => rfl); (case d => rfl); (case lo => decide); (case hi => decide); (case j => rfl); (case x => rfl); (case k7 => with_unfolding_all rfl); (case k8 => intro _; with_unfolding_all rfl); k_whole))
  k_with "subscriptTail" => (k_here; (with_reducible show wpAny _ _ (subscriptTail (Expr.Tuple _ _ _) _ (Value.ref _) (Value.int _ _)) _ _ _); k_dflt (refine' alt_at ?N ?m ?lo ?hi ?_ ?k7; (case N => k_asm); (case m => k_mem); (case lo => (rw [fm4]; (first | lia | omega))); (case hi => (rw [fm4]; (first | lia | omega))); (case k7 => with_unfolding_all rfl); k_whole); intro _ _ _ _)
  k_with "getMethod str" => (k_here; (with_reducible refine method_encode ?_))
  k_with "call builtin:str.encode" => (k_here; (refine' call_encode ?hs ?_); (case hs => assumption); intro _ _)
  k_with "call builtin:bytes.decode" => (k_here; (refine' call_decodeW ?hs ?_); (case hs => assumption); intro _ _)
  k_with "call ref" => (k_here; (with_reducible show wpAny _ _ (call (Value.ref 51) _ _) _ _ _); k_dflt (refine' b64_ok ?k1 ?k2 ?k3 ?k4 ?k5 ?k6 ?k7 ?k8 ?k9 ?kA ?kB ?kC ?kD ?_; (case k1 => k_asm); (case k2 => k_asm); (case k3 => k_asm); (case k4 => k_asm); (case k5 => k_asm); (case k6 => exact rfl); (case k7 => exact rfl); (case k8 => assumption); (case kB => exact fd256 _); (case kC => exact fm256 _); (case k9 => (first | lia | omega)); (case kA => (first | lia | omega)); (case kD => assumption); k_whole); intro _ _ _ _ _ _ _ _ _ _; (try k_sweep))
  k_with "call ref" => (k_here; (with_reducible show wpAny _ _ (call (Value.ref 126) _ _) _ _ _); k_dflt (refine' filemode_ok ?k1 ?k2 ?k3 ?k4 ?k5 ?k6 ?k7 ?k8 ?k9 ?_; (case k1 => k_asm); (case k2 => k_asm); (case k3 => k_asm); (case k4 => k_asm); (case k5 => k_asm); (case k6 => exact rfl); (case k7 => exact rfl); (case k8 => (first | lia | omega)); (case k9 => (first | lia | omega)); k_whole); intro _ _ _ _ _; (try k_sweep))
  k_with "call type:bytes" => (k_here; (with_reducible show wpAny _ _ (call (Value.type "bytes") [Value.ref _]) _ _ _); k_dflt (refine' bytes2 ?k1 ?k2 ?k3 ?k4 ?k5 ?k6 ?_; (case k1 => k_asm); (case k2 => k_asm); (case k3 => rfl); (case k4 => k_mem); (case k5 => (rw [fd256]; (first | lia | omega))); (case k6 => (rw [fm256]; (first | lia | omega))); k_whole); intro _ _ _ _ _ _ _; (try k_sweep))
  k_with "call ref" => (k_here; (with_reducible show wpAny _ _ (call (Value.ref 133) _ _) _ _ _); k_dflt (refine' turns_ok ?k1 ?k2 ?k3 ?k4 ?k5 ?k6 ?k7 ?k8 ?k9 ?kA ?kB ?kC ?_; (case k1 => k_asm); (case k2 => k_asm); (case k3 => k_asm); (case k4 => k_asm); (case k5 => k_asm); (case k6 => exact rfl); (case k7 => exact rfl); (case k8 => assumption); (case k9 => assumption); (case kA => assumption); (case kB => assumption); (case kC => assumption); k_whole); intro _ _ _ _ _ _ _ _ _ _ _; (try k_sweep))
  (repeat' ((fail_if_success (with_reducible show wpAny _ _ (exec (Stmt.While _ _ _ _) _) _ _ _)); (fail_if_success (with_reducible show wpAny _ _ (exec (Stmt.For _ _ _ _ _) _) _ _ _)); (fail_if_success (with_reducible show wpAny _ _ (call (Value.type "enumerate") _ _) _ _ _)); (fail_if_success (with_reducible show wpAny _ _ (call (Value.ref 152) _ _) _ _ _)); (fail_if_success (with_reducible show InvEndG _ _ _ _ _ _)); (fail_if_success (with_reducible show wpAny _ _ (compareOp CmpOp.Eq (Value.ref _) (Value.ref _)) _ _ _)); (first | (k_unfold; (try dsimp only)) | (k_end; wrow_close) | ((first | with_reducible k_extra "subscriptTail" | walk1); (all_goals try dsimp only)) | (dsimp only; (first | with_reducible k_extra "subscriptTail" | walk1)) | (leave1; walk_say "STEP leave1"; try dsimp only) | fail "no step")))
  rename_i alt ab ta hp _ _ _ _ _ _ _ _ _ _ _ _ _ _ _ _ _ _ _ _ _ _ _ _ _ _ D ws _ hI _ _ _ P _ l1b h1 F1 N1
  obtain ⟨modes, hI2, hmo, hl2, hl⟩ := modes_ok hI
  clear hI
  obtain ⟨rest, N2, hDr, hrest⟩ := led_ok N1 l1b
  replace F1 := (((Ov.nil F1).cons (x := Str.ofString "pile") rfl).cons (x := Str.ofString "modes") rfl).cons (x := Str.ofString "altchars") rfl |>.fr
  have N1 := N2
  clear N2
  refine wpAny_For ?_
  (repeat' ((fail_if_success (with_reducible show wpAny _ _ (exec (Stmt.While _ _ _ _) _) _ _ _)); (fail_if_success (with_reducible show wpAny _ _ (exec (Stmt.For _ _ _ _ _) _) _ _ _)); (fail_if_success (with_reducible show wpAny _ _ (call (Value.type "enumerate") _ _) _ _ _)); (fail_if_success (with_reducible show wpAny _ _ (call (Value.ref 152) _ _) _ _ _)); (fail_if_success (with_reducible show InvEndG _ _ _ _ _ _)); (fail_if_success (with_reducible show wpAny _ _ (compareOp CmpOp.Eq (Value.ref _) (Value.ref _)) _ _ _)); (first | (k_unfold; (try dsimp only)) | (k_end; wrow_close) | ((first | with_reducible k_extra "subscriptTail" | walk1); (all_goals try dsimp only)) | (dsimp only; (first | with_reducible k_extra "subscriptTail" | walk1)) | (leave1; walk_say "STEP leave1"; try dsimp only) | fail "no step")))
  have hwl : ws.length = modes.length := hI2.length
  have hDs := ltN (Heap.lt_size (N1 _ (.tail _ hDr)).1)
  have hLs := ltN F1.ns.lt
  dsimp only at hDs hLs
  refine call_enumerate_list (PySem.IsL.isList (n := 0) (N1 _ (.tail _ hDr)).1) ?_
  intro h2 he hit hsz2 hk2
  dsimp only at he hit hsz2 hk2 ⊢
  have fresh : ∀ a, h1.objs.size ≤ a → (_ : Heap).get? a = none := fun a ha => by
    cases e : (_ : Heap).get? a with
    | none => rfl
    | some o' => exact absurd (Heap.lt_size (F1.keep a o' e)) (Nat.not_lt.mpr ha)
  refine wpAny_pyIter_enum he ?_
  obtain ⟨J, hJ⟩ : ∃ J : Nat → (Str → Option Value) → List (Addr × Obj) → Prop, J = LawI P D rest alt ta modes := ⟨_, rfl⟩
  refine forT (k := D) (ok := W.listOf ws.toArray 0) (P2 := fun i v0 v1 => ∃ t x, ws.toArray[i]? = some x ∧ v0 = .int i t ∧ v1 = x)
    J
    rfl (WalksT.enumerate rfl (h1.objs.size + 1) h1.objs.size D (Nat.succ_ne_self _) (Nat.ne_of_lt (Nat.lt_succ_of_lt hDs)) (Nat.ne_of_lt hDs) ws.toArray) (by intro b hb; simp at hb ⊢; rcases hb with h | h | h <;> simp [h]) ?_
    (not_mem2 (Nat.ne_of_lt (Nat.lt_succ_of_lt hDs)) (Nat.ne_of_lt hDs)) ?_ rfl rfl rfl (not_mem2 (Nat.ne_of_lt (Nat.lt_succ_of_lt hLs)) (Nat.ne_of_lt hLs)) ?_ ?_ ?_
    (.inr fun i m nx hj => LawI.has (hJ ▸ hj) hDr) ⟨⟨_, he⟩, hit, ?_⟩ (F1.keeps hk2) (fun p hp => ⟨hk2 _ _ (N1 p hp).1, (N1 p hp).2⟩) (by rw [hJ]; exact ⟨[], 0, [], rfl, (fun _ h => nomatch h), RowsIn.nil, rfl, rfl, rfl⟩) ?_ ?_
  · rintro i h ⟨⟨old, q1⟩, ⟨o, q2, _⟩, _⟩ b hb
    rcases List.mem_cons.mp hb with rfl | hb
    · exact ⟨_, q1⟩
    · rw [List.mem_singleton.mp hb]
      exact ⟨_, q2⟩
  · rintro i vals ⟨t, x, q1, rfl⟩
    exact ⟨_, _, rfl, t, x, q1, rfl, rfl⟩
  · exact Ne.symm (N1 _ (.tail _ hDr)).2.1
  · intro b hb
    refine fresh b ?_
    simp at hb
    rcases hb with rfl | rfl
    · exact Nat.le_succ _
    · exact Nat.le_refl _
  · intro p hp hb
    have := ltN (Heap.lt_size (N1 p hp).1)
    exact not_mem2 (Nat.ne_of_lt (Nat.lt_succ_of_lt this)) (Nat.ne_of_lt this) hb
  · exact (PySem.IsL.isList (n := 0) (hk2 _ _ (N1 _ (.tail _ hDr)).1))
  · clear F1 N1 fresh he hit hsz2 hk2
    rintro i v0 v1 m1 nx h4 tk4 own hi ⟨t, x, hx, rfl, rfl⟩ hoff hj F2 N2
    rw [hJ] at hj
    obtain ⟨vs, n, tups, rfl, htP, hR, q1, q2, q3⟩ := hj
    rw [List.size_toArray] at hi
    have him : i < modes.length := by (first | lia | omega)
    obtain ⟨tm, hxm⟩ := hI2.get i (modes[i]'him) (List.getElem?_eq_getElem him)
    have ex : v1 = .int (modes[i]'him) tm := by
      have : ws.toArray[i]? = ws[i]? := by simp
      rw [this, hxm] at hx
      exact (Option.some.inj hx).symm
    subst ex
    have hmd := hmo _ (List.getElem_mem him)
    generalize hmode : modes[i]'him = mode at *
    have hvl : vs.length < 1000 := by rw [hR.1, List.length_take]; (first | lia | omega)
    have hoP : ∀ q ∈ (tups ++ rest) ++ own, q.1 ≠ P := by
      intro q hq
      rcases List.mem_append.mp hq with hq | hq
      · rcases List.mem_append.mp hq with hq | hq
        · exact htP q hq
        · exact hrest q hq
      · exact hoff q hq _ (.head _)
    replace N2 : News _ _ h4 ((P, W.listOf vs.toArray n) :: ((tups ++ rest) ++ own)) := N2
    generalize hR9 : (tups ++ rest) ++ own = R9 at *
    replace F2 := (((Ov.nil F2).cons (x := Str.ofString "pile") ((if_neg (by decide)).trans ((if_neg (by decide)).trans q1))).cons (x := Str.ofString "modes") ((if_neg (by decide)).trans ((if_neg (by decide)).trans q2))).cons (x := Str.ofString "altchars") ((if_neg (by decide)).trans ((if_neg (by decide)).trans q3)) |>.cons (x := Str.ofString "place") (v := .int i t) ((if_neg (by decide)).trans (if_pos rfl)) |>.cons (x := Str.ofString "mode") (v := .int mode tm) (if_pos rfl) |>.fr
    (try ((with_reducible show wpAny _ _ _ _ _ _); k_fold))
    (repeat' ((fail_if_success (with_reducible show wpAny _ _ (exec (Stmt.While _ _ _ _) _) _ _ _)); (fail_if_success (with_reducible show wpAny _ _ (exec (Stmt.For _ _ _ _ _) _) _ _ _)); (fail_if_success (with_reducible show wpAny _ _ (call (Value.type "enumerate") _ _) _ _ _)); (fail_if_success (with_reducible show wpAny _ _ (call (Value.ref 152) _ _) _ _ _)); (fail_if_success (with_reducible show InvEndG _ _ _ _ _ _)); (fail_if_success (with_reducible show wpAny _ _ (compareOp CmpOp.Eq (Value.ref _) (Value.ref _)) _ _ _)); (first | (k_unfold; (try dsimp only)) | (k_end; wrow_close) | ((first | with_reducible k_extra "subscriptTail" | walk1); (all_goals try dsimp only)) | (dsimp only; (first | with_reducible k_extra "subscriptTail" | walk1)) | (leave1; walk_say "STEP leave1"; try dsimp only) | fail "no step")))
    rename_i tA _ _ _ tB Dn _ hltD h9 F9 N9
    have hR2 : (rowsOf alt modes).take (i + 1) = (rowsOf alt modes).take i ++ [⟨writtenS alt mode, listingS mode, (i : Int)⟩] := by
      rw [List.take_add_one]
      congr 1
      unfold rowsOf
      rw [List.getElem?_map, List.getElem?_zipIdx, List.getElem?_eq_getElem him, hmode]
      simp
    rw [List.push_toArray] at N9
    have hPD : Dn ≠ P := Nat.ne_of_gt hltD.2.1
    have hoffD : ∀ p ∈ own, p.1 ≠ Dn := fun p hp => allLt_ne hltD.2.2 p (hR9 ▸ List.mem_append_right _ hp)
    subst hJ
    refine InvEndG.intro F9 N9 (nx := (P, W.listOf (vs ++ [Value.ref Dn]).toArray (n + 1)) :: ((Dn, tup3 ⟨writtenS alt mode, listingS mode, (i : Int)⟩ tA tB t) :: tups ++ rest))
      ⟨vs ++ [Value.ref Dn], n + 1, (Dn, tup3 ⟨writtenS alt mode, listingS mode, (i : Int)⟩ tA tB t) :: tups, rfl, ?_, ?_, rfl, rfl, rfl⟩ ?_ ?_ ?_
    · intro p hp
      rcases List.mem_cons.mp hp with rfl | hp
      · exact hPD
      · exact htP p hp
    · rw [hR2]
      exact (hR.mono fun p hp => .tail _ hp).snoc ⟨Dn, tA, tB, t, rfl, .head _⟩
    · intro p hp b hb
      rcases List.mem_cons.mp hb with rfl | hb
      · exact hoff p hp _ (.head _)
      · rcases List.mem_cons.mp hb with rfl | hb
        · exact hoffD p hp
        · exact hoff p hp b (.tail _ hb)
    · intro p hp
      rcases List.mem_cons.mp hp with rfl | hp
      · exact .tail _ (.tail _ (.head _))
      · rcases List.mem_cons.mp hp with rfl | hp
        · exact .head _
        · exact .tail _ (.tail _ (.tail _ (hR9 ▸ List.mem_append_left _ hp)))
    · intro p hp
      exact .tail _ (.tail _ (.tail _ (hR9 ▸ List.mem_append_right _ hp)))
  · clear F1 N1 fresh he hit hsz2 hk2
    intro m1 nx h4 tk4 hj F2 N2
    rw [hJ] at hj
    obtain ⟨vs, n, tups, rfl, htP, hR, q1, q2, q3⟩ := hj
    clear hJ J
    rw [List.size_toArray, hwl, List.take_of_length_le (by rw [rowsOf_len]; (first | lia | omega))] at hR
    replace F2 := (((Ov.nil F2).cons (x := Str.ofString "pile") q1).cons (x := Str.ofString "modes") q2).cons (x := Str.ofString "altchars") q3 |>.fr
    have hTR : ∀ q ∈ tups ++ rest, q.1 ≠ P := by
      intro q hq
      rcases List.mem_append.mp hq with hq | hq
      · exact htP q hq
      · exact hrest q hq
    have hnw : ∀ q ∈ tups, q ∈ tups ++ rest := fun q hq => List.mem_append_left _ hq
    have hDR : (D, W.listOf ws.toArray 0) ∈ tups ++ rest := List.mem_append_right _ hDr
    generalize tups ++ rest = R9 at *
    have hrl : (rowsOf alt modes).length < 500 := by rw [rowsOf_len]; (first | lia | omega)
    have htil := rows_tilde alt hmo
    (try ((with_reducible show wpAny _ _ _ _ _ _); k_fold))
    (repeat' ((fail_if_success (with_reducible show wpAny _ _ (exec (Stmt.While _ _ _ _) _) _ _ _)); (fail_if_success (with_reducible show wpAny _ _ (exec (Stmt.For _ _ _ _ _) _) _ _ _)); (fail_if_success (with_reducible show wpAny _ _ (call (Value.type "enumerate") _ _) _ _ _)); (fail_if_success (with_reducible show wpAny _ _ (call (Value.ref 152) _ _) _ _ _)); (fail_if_success (with_reducible show InvEndG _ _ _ _ _ _)); (fail_if_success (with_reducible show wpAny _ _ (compareOp CmpOp.Eq (Value.ref _) (Value.ref _)) _ _ _)); (first | (k_unfold; (try dsimp only)) | (k_end; wrow_close) | ((first | with_reducible k_extra "subscriptTail" | walk1); (all_goals try dsimp only)) | (dsimp only; (first | with_reducible k_extra "subscriptTail" | walk1)) | (leave1; walk_say "STEP leave1"; try dsimp only) | fail "no step")))
    rename_i G gvs ng rest1 F5 N5 hsub hne hG
    refine' rises_ok (n := 0) (ws := ws) (modes := modes) (rest := (G, W.listOf gvs.toArray ng) :: rest1) ?k1 ?k2 ?k3 ?k4 ?k5 ?k6 ?k7 ?k8 ?k9 ?kA ?kB ?kC ?_
    (case k1 => k_asm)
    (case k2 => k_asm)
    (case k3 => k_asm)
    (case k4 => k_asm)
    (case k5 =>
      refine news_of N5 ?_
      intro p hp
      rcases List.mem_cons.mp hp with rfl | hp
      · exact .tail _ (hsub _ hDR)
      · exact hp)
    (case k6 => exact rfl)
    (case k7 => exact rfl)
    (case k8 => exact hI2)
    (case k9 => exact hmo)
    (case kA => exact hl2)
    (case kB => exact hl)
    (case kC => exact (alts_enc hp).2.2)
    clear F5 N5
    intro h6 tk6 G2 gvs2 ng2 rest2 Z srows F6 N6 hsub2 hG2 hperm hsrt hZ hZo
    have eZ := turns_rises htil hperm hsrt hZ hZo
    rw [eZ] at hG
    (repeat' ((fail_if_success (with_reducible show wpAny _ _ (exec (Stmt.While _ _ _ _) _) _ _ _)); (fail_if_success (with_reducible show wpAny _ _ (exec (Stmt.For _ _ _ _ _) _) _ _ _)); (fail_if_success (with_reducible show wpAny _ _ (call (Value.type "enumerate") _ _) _ _ _)); (fail_if_success (with_reducible show wpAny _ _ (call (Value.ref 152) _ _) _ _ _)); (fail_if_success (with_reducible show InvEndG _ _ _ _ _ _)); (fail_if_success (with_reducible show wpAny _ _ (compareOp CmpOp.Eq (Value.ref _) (Value.ref _)) _ _ _)); (first | (k_unfold; (try dsimp only)) | (k_end; wrow_close) | ((first | with_reducible k_extra "subscriptTail" | walk1); (all_goals try dsimp only)) | (dsimp only; (first | with_reducible k_extra "subscriptTail" | walk1)) | (leave1; walk_say "STEP leave1"; try dsimp only) | fail "no step")))
    refine eq_gone (nw := rest1) (nw' := rest2) (gone := Z) N6 (.tail _ (hsub2 _ (.tail _ (.head _)))) (.head _) (fun q hq => .tail _ (hsub2 _ (.tail _ (.tail _ hq)))) (fun q hq => .tail _ hq) hG hG2 ?_ ?_
    · exact (by decide : (7 : Nat) + 3 < cLine)
    · (repeat' ((fail_if_success (with_reducible show wpAny _ _ (exec (Stmt.While _ _ _ _) _) _ _ _)); (fail_if_success (with_reducible show wpAny _ _ (exec (Stmt.For _ _ _ _ _) _) _ _ _)); (fail_if_success (with_reducible show wpAny _ _ (call (Value.type "enumerate") _ _) _ _ _)); (fail_if_success (with_reducible show wpAny _ _ (call (Value.ref 152) _ _) _ _ _)); (fail_if_success (with_reducible show InvEndG _ _ _ _ _ _)); (fail_if_success (with_reducible show wpAny _ _ (compareOp CmpOp.Eq (Value.ref _) (Value.ref _)) _ _ _)); (first | (k_unfold; (try dsimp only)) | (k_end; wrow_close) | ((first | with_reducible k_extra "subscriptTail" | walk1); (all_goals try dsimp only)) | (dsimp only; (first | with_reducible k_extra "subscriptTail" | walk1)) | (leave1; walk_say "STEP leave1"; try dsimp only) | fail "no step"))))
end HJx
end Mine
theorem PySem.Challenge.cw_nq0079_01_holds : PySem.Challenge.rw_nq0079_01.Holds :=
  Mine.law_holds
