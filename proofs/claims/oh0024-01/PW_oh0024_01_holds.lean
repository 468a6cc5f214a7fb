import PyProof.Rows.All
import Wide.All
import OpenK.AllK
import Wide.FinOn
import PySem.Challenge.RW_oh0024_01
set_option Elab.async false
set_option rowWalk.seconds 0
section -- H0
open PySem PySem.W PyProof.Rows
namespace Mine
set_option maxRecDepth 100000
set_option maxHeartbeats 8000000
open_top hd for PySem.Challenge.rw_oh0024_01
end Mine

end
section -- B1
open PySem PySem.W PyProof.Rows
set_option maxRecDepth 100000
namespace Mine
theorem freshB1 : True := by
  w_top off
  trivial

/-- a bundle on the heap: its price, its listing, its names, its mode -/
abbrev Item := Int × Str × Str × Int
abbrev tup4 (it : Item) (t1 t2 t3 t4 : Tok) (n : Nat) : Obj :=
  { cls := .type "tuple", data := .seq #[.int it.1 t1, .str it.2.1 t2, .str it.2.2.1 t3, .int it.2.2.2 t4] n }
def ItemIn (news : List (Addr × Obj)) (v : Value) (it : Item) : Prop :=
  ∃ a t1 t2 t3 t4 n, v = .ref a ∧ (a, tup4 it t1 t2 t3 t4 n) ∈ news
theorem ItemIn.mono {news news' : List (Addr × Obj)} {v : Value} {it : Item} (h : ItemIn news v it) (hs : ∀ p ∈ news, p ∈ news') : ItemIn news' v it := by
  obtain ⟨a, t1, t2, t3, t4, n, e, hm⟩ := h
  exact ⟨a, t1, t2, t3, t4, n, e, hs _ hm⟩

/-- the order of two bundles: Python's order of the two tuples -/
def itemLt (x y : Item) : Bool :=
  if x.1 = y.1 then (if x.2.1 = y.2.1 then (if x.2.2.1 = y.2.2.1 then decide (x.2.2.2 < y.2.2.2) else decide (x.2.2.1.cps.toList < y.2.2.1.cps.toList)) else decide (x.2.1.cps.toList < y.2.1.cps.toList)) else decide (x.1 < y.1)

section
variable {prog : Program} {w : World} {A : Around} {E : Value → Shared → Prop} {s : Shared}

theorem tuple_lt_tree {x y : Item} {a b : Addr} {t1 t2 t3 t4 u1 u2 u3 u4 : Tok} {n k : Nat} {P : PySem.Fin → Shared → Prop}
    (hx : s.heap.get? a = some (tup4 x t1 t2 t3 t4 n)) (hy : s.heap.get? b = some (tup4 y u1 u2 u3 u4 k)) (h : P (.done (.ret (.bool (itemLt x y)))) s) :
    wpAny (model prog w) A (Builtin.«tuple.__lt__» ⟨[.ref a, .ref b], []⟩) P E s := by
  have hTb : s.TypeIs (.ref b) "tuple" := ⟨_, hy, rfl⟩
  show wpAny _ _ (isInstance (.ref b) (.type "tuple") >>= _) _ _ s
  refine wpAny_bind (wpAny_isInstance hTb isSubtype_tuple_tuple ?_)
  simp only [Bool.not_true, Bool.false_eq_true, if_false]
  refine wpAny_bind (wpAny_tupleItemsOf hx rfl ?_)
  refine wpAny_bind (wpAny_tupleItemsOf hy rfl ?_)
  unfold itemLt at h
  simp only [List.zip_cons_cons, List.zip_nil_right, List.forIn_cons, List.forIn_nil]
  refine wpAny_bind (wpAny_bind (wpAny_bind (wpAny_eqBool_int ?_)))
  by_cases e1 : x.1 = y.1
  · rw [if_pos e1] at h
    simp only [e1, BEq.rfl, Bool.not_true, Bool.false_eq_true, if_false]
    refine wpAny_pure (wpAny_bind (wpAny_bind (wpAny_eqBool_str ?_)))
    by_cases e2 : x.2.1 = y.2.1
    · rw [if_pos e2] at h
      rw [decide_eq_true e2]
      simp only [Bool.not_true, Bool.false_eq_true, if_false]
      refine wpAny_pure (wpAny_bind (wpAny_bind (wpAny_eqBool_str ?_)))
      by_cases e3 : x.2.2.1 = y.2.2.1
      · rw [if_pos e3] at h
        rw [decide_eq_true e3]
        simp only [Bool.not_true, Bool.false_eq_true, if_false]
        refine wpAny_pure (wpAny_bind (wpAny_bind (wpAny_eqBool_int ?_)))
        by_cases e4 : x.2.2.2 = y.2.2.2
        · simp only [e4, BEq.rfl, Bool.not_true, Bool.false_eq_true, if_false]
          refine wpAny_pure (wpAny_pure ?_)
          rw [e4, decide_eq_false (Int.lt_irrefl _)] at h
          exact wpAny_pure h
        · rw [beq_eq_false_iff_ne.mpr e4]
          simp only [Bool.not_false, if_true]
          refine wpAny_bind (wpAny_rule (wpAny_bind ?_))
          exact wpAny_lt_int (wpAny_bind (wpAny_pure (wpAny_pure (wpAny_pure (wpAny_pure h)))))
      · rw [if_neg e3] at h
        rw [decide_eq_false e3]
        simp only [Bool.not_false, if_true]
        refine wpAny_bind (wpAny_rule (wpAny_bind ?_))
        exact lt_str (wpAny_bind (wpAny_pure (wpAny_pure (wpAny_pure (wpAny_pure h)))))
    · rw [if_neg e2] at h
      rw [decide_eq_false e2]
      simp only [Bool.not_false, if_true]
      refine wpAny_bind (wpAny_rule (wpAny_bind ?_))
      exact lt_str (wpAny_bind (wpAny_pure (wpAny_pure (wpAny_pure (wpAny_pure h)))))
  · rw [if_neg e1] at h
    rw [beq_eq_false_iff_ne.mpr e1]
    simp only [Bool.not_false, if_true]
    refine wpAny_bind (wpAny_rule (wpAny_bind ?_))
    exact wpAny_lt_int (wpAny_bind (wpAny_pure (wpAny_pure (wpAny_pure (wpAny_pure h)))))

theorem lt_items {x y : Item} {a b : Addr} {t1 t2 t3 t4 u1 u2 u3 u4 : Tok} {n k : Nat} {Q : Value → Shared → Prop} (hu : A.units < cLine)
    (hx : s.heap.get? a = some (tup4 x t1 t2 t3 t4 n)) (hy : s.heap.get? b = some (tup4 y u1 u2 u3 u4 k)) (h : Q (.bool (itemLt x y)) s) :
    wpAny (model prog w) A (compareOp .Lt (.ref a) (.ref b)) Q E s :=
  cmp_ofLt (wpAny_richCompare_same_room (op := .Lt) (T := "tuple") ⟨_, hx, rfl⟩ ⟨_, hy, rfl⟩ F.slot_tuple_lt
    (wpAny_call_entry F.slot_tuple_lt ⟨_, hx, rfl⟩ F.entry_tuple_lt (tuple_lt_tree hx hy ⟨_, rfl, (fun e => nomatch e), h⟩) (F.args_tuple_lt_2 _ _)) hu)
theorem lt_itemsV {h₀ : Heap} {L : Addr} {news news' : List (Addr × Obj)} {vx vy : Value} {x y : Item} {Q : Value → Shared → Prop} (hu : A.units < cLine) (N : News h₀ L s.heap news) (hs : ∀ p ∈ news', p ∈ news) (hx : ItemIn news' vx x) (hy : ItemIn news' vy y)
    (h : Q (.bool (itemLt x y)) s) : wpAny (model prog w) A (compareOp .Lt vx vy) Q E s := by
  obtain ⟨a, t1, t2, t3, t4, n, rfl, ha⟩ := hx
  obtain ⟨b, u1, u2, u3, u4, k, rfl, hb⟩ := hy
  exact lt_items hu (N _ (hs _ ha)).1 (N _ (hs _ hb)).1 h
end

section
variable {prog : Program} {w : World} {A : Around} {E : Value → Shared → Prop} {s : Shared} {h₀ : Heap} {L D : Addr} {m : Str → Option Value} {news news' rest : List (Addr × Obj)} {vs : List Value} {n : Nat} {k : Int} {t u : Tok} {v : Value}
/-- a store into a list of the ledger's, at a place in bounds -/
theorem set_V {Q : Unit → Shared → Prop} (F : Fr h₀ L s.heap m) (N : News h₀ L s.heap ((D, listOf vs.toArray n) :: rest)) (hoff : ∀ p ∈ rest, p.1 ≠ D) (h0 : 0 ≤ k) (h1 : k < vs.length) (hfit : k < 2 ^ 63)
    (h : ∀ h', Fr h₀ L h' m → News h₀ L h' ((D, listOf (vs.set k.toNat v).toArray n) :: rest) → Q () { s with heap := h' }) :
    wpAny (model prog w) A (setItem (.ref D) (.int k t) v) Q E s := by
  have z := N (D, listOf vs.toArray n) (.head _)
  have hj : k.toNat < vs.length := by omega
  refine ki_setAt z.1 h0 hfit (by simpa using h1) (h _ (F.change (Heap.SameBut.update ..) z.2.1 z.2.2) (ki_turn (pre := []) _ N (fun _ hp => nomatch hp) hoff ?_ ?_))
  · show vs.toArray.setIfInBounds k.toNat v = (vs.set k.toNat v).toArray
    apply Array.toList_inj.mp
    simp
  · simp
theorem set_VI {Q : Unit → Shared → Prop} {xs : List (Value × Item)} {i : Nat} (x : Value × Item) (F : Fr h₀ L s.heap m) (N : News h₀ L s.heap ((D, listOf (xs.map (·.1)).toArray n) :: rest)) (hoff : ∀ p ∈ rest, p.1 ≠ D) (h1 : i < xs.length) (hfit : xs.length < 1000)
    (h : ∀ h', Fr h₀ L h' m → News h₀ L h' ((D, listOf ((xs.set i x).map (·.1)).toArray n) :: rest) → Q () { s with heap := h' }) :
    wpAny (model prog w) A (setItem (.ref D) (.int (i : Int) t) x.1) Q E s := by
  refine set_V F N hoff (by omega) (by simpa using h1) (by omega) fun h' F' N' => h h' F' ?_
  have e : ((xs.set i x).map (·.1)) = (xs.map (·.1)).set (i : Int).toNat x.1 := by simp [List.map_set]
  rw [e]; exact N'
theorem len_V {Q : Value → Shared → Prop} (N : News h₀ L s.heap news) (hm : (D, listOf vs.toArray n) ∈ news) (hfit : vs.length < 1000)
    (h : Q (.int (vs.length : Int) (s.toks + 1)) { s with toks := s.toks + 1 + 1 }) : wpAny (model prog w) A (call (.builtin "len") [.ref D]) Q E s := by
  have hl : s.heap.IsList D vs.toArray := ⟨_, (N _ hm).1, rfl, n, rfl⟩
  exact len_list hl (by simp; omega) (by simpa using h)
theorem sub_V {value slice : PySem.Expr} {Q : Value → Shared → Prop} (N : News h₀ L s.heap news) (hm : (D, listOf vs.toArray n) ∈ news) (h0 : 0 ≤ k) (hfit : k < 2 ^ 63) (hx : vs[k.toNat]? = some v) (h : Q v s)
    (hs : subscripted slice false (.ref D) (.int k u) = operate [.ref D, .int k u] (getItem (.ref D) (.int k u)) := by with_unfolding_all rfl) :
    wpAny (model prog w) A (subscriptTail value slice (.ref D) (.int k u)) Q E s := by
  have hl : s.heap.IsList D vs.toArray := ⟨_, (N _ hm).1, rfl, n, rfl⟩
  exact tail_any hl.typeIs slot_list_getitem.lookup (wpAny_getItem_list hl h0 hfit (by simpa using hx) h) hs
theorem sub_VI {value slice : PySem.Expr} {xs : List (Value × Item)} {x : Value × Item} {Q : Value → Shared → Prop} (i : Nat) (hk : k = i) (N : News h₀ L s.heap ((D, listOf (xs.map (·.1)).toArray n) :: rest)) (hfit : xs.length < 1000) (hx : xs[i]? = some x) (h : Q x.1 s)
    (hs : subscripted slice false (.ref D) (.int k u) = operate [.ref D, .int k u] (getItem (.ref D) (.int k u)) := by with_unfolding_all rfl) :
    wpAny (model prog w) A (subscriptTail value slice (.ref D) (.int k u)) Q E s := by
  have hi : i < xs.length := (List.getElem?_eq_some_iff.mp hx).1
  subst hk
  exact sub_V N (.head _) (by omega) (by omega) (by simp [hx]) h hs
end
end Mine

end
section -- S1
open PySem PySem.W PyProof.Rows
set_option maxRecDepth 100000
set_option maxHeartbeats 4000000
namespace Mine
theorem freshS1 : True := by
  w_top off
  trivial
def sdGo {α : Type} (lt : α → α → Bool) (x : α) : Nat → List α → Nat → List α
  | 0, xs, pos => xs.set pos x
  | f + 1, xs, pos => if pos = 0 then xs.set pos x else match xs[(pos - 1) / 2]? with
    | some p => if lt x p = true then sdGo lt x f (xs.set pos p) ((pos - 1) / 2) else xs.set pos x
    | none => xs.set pos x
abbrev mapOf (l : List (Str × Value)) : Str → Option Value := fun y => List.lookup y l
theorem frNorm {h₀ h : Heap} {L : Addr} {m m' : Str → Option Value} (F : Fr h₀ L h m) (e : m = m') : Fr h₀ L h m' := e ▸ F
abbrev VI := Value × Item
abbrev viLt (x y : VI) : Bool := itemLt x.2 y.2

local macro_rules | `(tactic| walk_at "m_stop") => `(tactic| first
  | with_reducible show wpAny _ _ (exec (Stmt.While _ _ _ _) _) _ _ _
  | with_reducible show wpAny _ _ (subscriptTail _ _ (Value.ref _) _) _ _ _
  | with_reducible show wpAny _ _ (setItem _ _ _) _ _ _
  | with_reducible show wpAny _ _ (call (Value.builtin "len") _ _) _ _ _
  | with_reducible show wpAny _ _ (compareOp CmpOp.Lt (Prod.fst _) _) _ _ _
  | with_reducible show wpAny _ _ (call (Value.ref 96) _ _) _ _ _
  | with_reducible show KswEnd _ _ _ _ _ _ _ _ _ _ _ _)
local macro_rules | `(tactic| walk_at "m_steps") => `(tactic| repeat' (first | ((fail_if_success (walk_at "m_stop")); (first | (k_unfold; (try dsimp only)) | (k_end; wrow_close) | walk1 | (dsimp only; walk1) | (leave1; (try dsimp only))))))

theorem siftdown_t : ∀ (w : World) (mean : ExcName → Option Value) (mg mb : Str → Option Value) (dp un : Nat) (gd : Option (List Code)) (cn : Str) (cs : Scope) (a : Addr) (ccd : Value) (cl : List (Str × Addr)) (outer : List Env) (A₀ : Around) (base h₀ : Heap) (L : Addr) (m : Str → Option Value) (s : Shared)
    (Q E : Value → Shared → Prop) (hp : Addr) (xs : List VI) (x : VI) (n : Nat) (rest : List (Addr × Obj)) (pos : Int) (t0 t1 : Tok),
    Below A₀ base outer h₀ → Fr h₀ L s.heap m → (Mine.hd.heap_39 w.params).In h₀ → News h₀ L s.heap ((hp, listOf (xs.map (·.1)).toArray n) :: rest) → Top Mine.hd.view_39 (looseW Mine.hd.view_39 [Str.ofString "_filemode_table"]) mean mg mb h₀ → cs.kind = .function → 
    (∀ p ∈ rest, p.1 ≠ hp) → (∀ y ∈ xs, ItemIn rest y.1 y.2) → 0 ≤ pos → xs[pos.toNat]? = some x → xs.length < 1000 → dp + 5 < recursionLimit → un + 40 < cLine →
    (∀ h' tk', Fr h₀ L h' m → News h₀ L h' ((hp, listOf ((sdGo viLt x pos.toNat xs pos.toNat).map (·.1)).toArray n) :: rest) → Q .none { s with heap := h', toks := tk' }) →
    wpAny (model Challenge.rw_oh0024_01.row.prog w) (ktrTop dp un gd cn cs L a ccd cl outer) (call (.ref 96) [.ref hp, .int 0 t0, .int pos t1]) Q E s := by
  k_fill
  intro w mean mg mb dp un gd cn cs a ccd cl outer A₀ base h₀ L m s Q E hp xs x n rest pos t0 t1 B F X N T hk hoff hit hp0 hx hlen hd hu hret
  have hp1 : pos.toNat < xs.length := (List.getElem?_eq_some_iff.mp hx).1
  refine wpAny_call ?_
  k_dflt ktr_enter
  rename Fr _ _ _ (fun y => List.lookup y _) => F0
  replace F0 := frNorm F0 (show _ = mapOf [(Str.ofString "pos", .int pos t1), (Str.ofString "startpos", .int 0 t0), (Str.ofString "heap", .ref hp)] from rfl)
  walk_at "m_steps"
  refine sub_V (by assumption) (.head _) hp0 (by omega) (v := x.1) (by simp [hx]) ?_
  walk_at "m_steps"
  rename News _ _ _ _ => N1
  rename Fr _ _ _ (fun y => if y = _ then _ else _) => F1
  refine ksw_while (σ := List VI × Nat × Tok) (fun c => (hp, listOf (c.1.map (·.1)).toArray n) :: rest) (fun c => [(Str.ofString "pos", .int (c.2.1 : Int) c.2.2)]) (fun _ => True) [Str.ofString "parentpos", Str.ofString "parent"]
    (fun c => c.2.1 < c.1.length ∧ c.1.length = xs.length ∧ (∀ y ∈ c.1, ItemIn rest y.1 y.2) ∧ ∃ f, c.2.1 ≤ f ∧ sdGo viLt x f c.1 c.2.1 = sdGo viLt x pos.toNat xs pos.toNat)
    (fun c => c.2.1) (xs, pos.toNat, t1) F1 N1 trivial ?_ ?_ ?_
  · intro p hp; 
    have : p = (Str.ofString "pos", Value.int (pos.toNat : Int) t1) := by simpa using hp
    subst this
    rw [Int.toNat_of_nonneg hp0]
    rfl
  · exact ⟨hp1, rfl, hit, pos.toNat, Nat.le_refl _, rfl⟩
  · rintro ⟨ys, p, t⟩ u h tkA - ⟨h1, h2, h3, f, h4, h5⟩ F2 N2
    dsimp only at *
    k_fold
    walk_at "m_steps"
    · dsimp only at *
      rename_i hpp _ _ _
      obtain ⟨q, hq⟩ : ∃ q : Nat, ((p : Int) - 1).fdiv (2 ^ Int.toNat 1) = q ∧ q = (p - 1) / 2 := by
        refine ⟨(p - 1) / 2, ?_, rfl⟩
        have e : ((p : Int) - 1) = ((p - 1 : Nat) : Int) := by omega
        rw [e]
        show ((p - 1 : Nat) : Int).fdiv 2 = _
        rw [Int.fdiv_eq_ediv_of_nonneg _ (by decide)]
        omega
      obtain ⟨hq1, hq2⟩ := hq
      rw [hq1]
      have hql : q < ys.length := by omega
      have hy : ys[q]? = some ys[q] := List.getElem?_eq_getElem hql
      refine sub_V (by assumption) (.head _) (by omega) (by omega) (v := ys[q].1) (by simp [hql]) ?_
      walk_at "m_steps"
      refine lt_itemsV (by simp only [units_deeper]; omega) (by assumption) (fun p hp => .tail _ hp) (hit x (List.mem_of_getElem? hx)) (h3 _ (List.getElem_mem hql)) ?_
      walk_at "m_steps"
      · dsimp only
        rename itemLt _ _ = true => hlt
        refine set_VI ys[q] (by assumption) (by assumption) hoff h1 (by omega) ?_
        intro h' F' N'
        walk_at "m_steps"
        rename_i F9 N9
        refine ksw_end (c := (ys, p, t)) (ys.set p ys[q], q, tkA + 1 + 1 + 1) F9 N9 (fun _ h => h) trivial ?_ ?_ ?_ ?_
        · dsimp only
          rw [← hq1]
          kst_all
        · intro z h2 h3
          simp only [List.forall_mem_cons, List.not_mem_nil, false_implies, implies_true, and_true, ne_eq] at h2
          simp only [List.contains_cons, List.contains_nil, Bool.or_false, Bool.or_eq_false_iff, beq_eq_false_iff_ne, ne_eq] at h3
          simp [kstB, h2, h3]
        · refine ⟨by simpa using hql, by simpa using h2, ?_, ?_⟩
          · intro y hy'
            rcases List.mem_or_eq_of_mem_set hy' with hy' | rfl
            · exact h3 _ hy'
            · exact h3 _ (List.getElem_mem hql)
          · have hf : f = (f - 1) + 1 := by omega
            refine ⟨f - 1, by dsimp only; omega, ?_⟩
            rw [← h5, hf, sdGo, if_neg (by omega), ← hq2, hy]
            dsimp only
            rw [if_pos hlt]
            simp
        · dsimp only; omega
      · dsimp only
        rename itemLt _ _ = false => hlt
        refine set_VI x (by assumption) (by assumption) hoff h1 (by omega) ?_
        intro h' F' N'
        walk_at "m_steps"
        have e : sdGo viLt x f ys p = ys.set p x := by
          have hf : f = (f - 1) + 1 := by omega
          rw [hf, sdGo, if_neg (by omega), ← hq2, hy]
          dsimp only
          rw [if_neg (by rw [show viLt x ys[q] = false from hlt]; decide)]
        refine hret _ _ (by assumption) ?_
        rw [← h5, e]; assumption
    · dsimp only at *
      refine set_VI x (by assumption) (by assumption) hoff h1 (by omega) ?_
      intro h' F' N'
      walk_at "m_steps"
      have e : sdGo viLt x f ys p = ys.set p x := by
        have hp : p = 0 := by omega
        subst hp
        cases f with
        | zero => rfl
        | succ f => rw [sdGo, if_pos rfl]
      refine hret _ _ (by assumption) ?_
      rw [← h5, e]; assumption
end Mine

end
section -- S2
open PySem PySem.W PyProof.Rows
set_option maxRecDepth 100000
set_option maxHeartbeats 4000000
namespace Mine
theorem freshS2 : True := by
  w_top off
  trivial
def suGo {α : Type} (lt : α → α → Bool) : Nat → List α → Nat → List α × Nat
  | 0, xs, pos => (xs, pos)
  | f + 1, xs, pos => match xs[2 * pos + 1]?, xs[2 * pos + 2]? with
    | some y, some z => if lt y z = true then suGo lt f (xs.set pos y) (2 * pos + 1) else suGo lt f (xs.set pos z) (2 * pos + 2)
    | some y, none => suGo lt f (xs.set pos y) (2 * pos + 1)
    | none, _ => (xs, pos)

local macro_rules | `(tactic| walk_at "m_stop") => `(tactic| first
  | with_reducible show wpAny _ _ (exec (Stmt.While _ _ _ _) _) _ _ _
  | with_reducible show wpAny _ _ (subscriptTail _ _ (Value.ref _) _) _ _ _
  | with_reducible show wpAny _ _ (setItem _ _ _) _ _ _
  | with_reducible show wpAny _ _ (call (Value.builtin "len") _ _) _ _ _
  | with_reducible show wpAny _ _ (compareOp CmpOp.Lt (Prod.fst _) _) _ _ _
  | with_reducible show wpAny _ _ (call (Value.ref 96) _ _) _ _ _
  | with_reducible show KswEnd _ _ _ _ _ _ _ _ _ _ _ _)
local macro_rules | `(tactic| walk_at "m_steps") => `(tactic| repeat' (first | ((fail_if_success (walk_at "m_stop")); (first | (k_unfold; (try dsimp only)) | (k_end; wrow_close) | walk1 | (dsimp only; walk1) | (leave1; (try dsimp only))))))

theorem su_P {xs ys : List VI} {rest : List (Addr × Obj)} {p c f : Nat} {y : VI} {R : List VI × Nat} (h2 : ys.length = xs.length) (h1 : p < ys.length) (h3 : ∀ y ∈ ys, ItemIn rest y.1 y.2) (h4 : xs.length - p ≤ f) (h5 : suGo viLt f ys p = R)
    (hc : ys[c]? = some y) (hpc : p < c) (step : ∀ f', suGo viLt (f' + 1) ys p = suGo viLt f' (ys.set p y) c) :
    c < (ys.set p y).length ∧ (ys.set p y).length = xs.length ∧ (∀ z ∈ ys.set p y, ItemIn rest z.1 z.2) ∧ ∃ f, xs.length - c ≤ f ∧ suGo viLt f (ys.set p y) c = R := by
  have hcl : c < ys.length := (List.getElem?_eq_some_iff.mp hc).1
  refine ⟨by simpa using hcl, by simpa using h2, fun z hz => ?_, f - 1, by omega, ?_⟩
  · rcases List.mem_or_eq_of_mem_set hz with hz | rfl
    · exact h3 _ hz
    · exact h3 _ (List.mem_of_getElem? hc)
  · have hf : f = (f - 1) + 1 := by omega
    rw [← step, ← hf, h5]

section
variable {w : World} {mean : ExcName → Option Value} {mg mb : Str → Option Value} {dp un : Nat} {gd : Option (List Code)} {cn : Str} {cs : Scope} {a : Addr} {ccd : Value} {cl : List (Str × Addr)} {outer : List Env} {A₀ : Around} {base h₀ : Heap} {L : Addr} {m : Str → Option Value} {s : Shared}
    {Q E : Value → Shared → Prop} {hp : Addr} {n : Nat} {rest : List (Addr × Obj)}

theorem siftup_t {xs : List VI} {x : VI} {t0 : Tok} (B : Below A₀ base outer h₀) (F : Fr h₀ L s.heap m) (X : (Mine.hd.heap_39 w.params).In h₀) (T : Top Mine.hd.view_39 (looseW Mine.hd.view_39 [Str.ofString "_filemode_table"]) mean mg mb h₀) (hk : cs.kind = .function)
    (N : News h₀ L s.heap ((hp, listOf (xs.map (·.1)).toArray n) :: rest)) (hoff : ∀ p ∈ rest, p.1 ≠ hp) (hit : ∀ y ∈ xs, ItemIn rest y.1 y.2) (hx : xs[0]? = some x) (hlen : xs.length < 1000) (hd : dp + 6 < recursionLimit) (hu : un + 50 < cLine)
    (hret : ∀ h' tk', Fr h₀ L h' m → News h₀ L h' ((hp, listOf ((let r := suGo viLt xs.length xs 0; sdGo viLt x r.2 (r.1.set r.2 x) r.2).map (·.1)).toArray n) :: rest) → Q .none { s with heap := h', toks := tk' }) :
    wpAny (model Challenge.rw_oh0024_01.row.prog w) (ktrTop dp un gd cn cs L a ccd cl outer) (call (.ref 103) [.ref hp, .int 0 t0]) Q E s := by
  revert X
  k_fill
  intro X
  have hx0 : 0 < xs.length := (List.getElem?_eq_some_iff.mp hx).1
  refine wpAny_call ?_
  k_dflt ktr_enter
  rename Fr _ _ _ (fun y => List.lookup y _) => F0
  replace F0 := frNorm F0 (show _ = mapOf [(Str.ofString "pos", .int 0 t0), (Str.ofString "heap", .ref hp)] from rfl)
  walk_at "m_steps"
  refine len_V (by assumption) (.head _) (by simpa using hlen) ?_
  dsimp only
  rw [List.length_map]
  walk_at "m_steps"
  refine sub_V (by assumption) (.head _) (by decide) (by decide) (v := x.1) (by simp [hx]) ?_
  walk_at "m_steps"
  rename News _ _ _ _ => N1
  rename Fr _ _ _ (fun y => if y = _ then _ else _) => F1
  dsimp only at F1
  refine' ksw_while (σ := List VI × Nat × Tok × Tok) (fun c => (hp, listOf (c.1.map (·.1)).toArray n) :: rest) (fun c => [(Str.ofString "pos", .int (c.2.1 : Int) c.2.2.1), (Str.ofString "childpos", .int (2 * (c.2.1 : Int) + 1) c.2.2.2)]) (fun _ => True) [Str.ofString "rightpos"]
    (fun c => c.2.1 < c.1.length ∧ c.1.length = xs.length ∧ (∀ y ∈ c.1, ItemIn rest y.1 y.2) ∧ ∃ f, xs.length - c.2.1 ≤ f ∧ suGo viLt f c.1 c.2.1 = suGo viLt xs.length xs 0)
    (fun c => xs.length - c.2.1) (xs, 0, t0, ?tok) F1 N1 trivial ?hk ?hp ?turn
  case hk => kst_all
  case hp => exact ⟨hx0, rfl, hit, xs.length, by simp, rfl⟩
  case turn =>
    rintro ⟨ys, p, t, t'⟩ u h tkA - ⟨h1, h2, h3, f, h4, h5⟩ F2 N2
    dsimp only at *
    k_fold
    obtain ⟨q, hq⟩ : ∃ q : Nat, 2 * (p : Int) + 1 = q := ⟨2 * p + 1, by omega⟩
    have hq' : q = 2 * p + 1 := by omega
    rw [hq] at F2
    walk_at "m_steps"
    all_goals dsimp only
    · rename (q : Int) < _ => ha
      rename (q : Int) + 1 < _ => hb
      have hc : ys[q]? = some ys[q] := List.getElem?_eq_getElem (by omega)
      have hr : ys[q + 1]? = some ys[q + 1] := List.getElem?_eq_getElem (by omega)
      refine sub_VI q rfl (by assumption) (by omega) hc ?_
      walk_at "m_steps"
      refine sub_VI (q + 1) rfl (by assumption) (by omega) hr ?_
      walk_at "m_steps"
      refine lt_itemsV (by simp only [units_deeper]; omega) (by assumption) (fun p hp => .tail _ hp) (h3 _ (List.mem_of_getElem? hc)) (h3 _ (List.mem_of_getElem? hr)) ?_
      walk_at "m_steps"
      · dsimp only
        rename itemLt _ _ = true => hlt
        refine sub_VI q rfl (by assumption) (by omega) hc ?_
        walk_at "m_steps"
        (try dsimp only at *)
        refine set_VI ys[q] (by assumption) (by assumption) hoff h1 (by omega) ?_
        intro h' F' N'
        walk_at "m_steps"
        (try dsimp only at *)
        rename_i F9 N9
        refine' ksw_end (c := (ys, p, t, t')) (ys.set p ys[q], q, ?ta1, ?tb1) F9 N9 (fun _ h => h) trivial ?hk ?hr ?hP ?hm
        case hk => kst_all
        case hP =>
          refine su_P h2 h1 h3 h4 h5 hc (show p < q by omega) fun f' => ?_
          have e1 : ys[2 * p + 1]? = some ys[q] := by rw [← hq', hc]
          have e2 : ys[2 * p + 2]? = some ys[q + 1] := by rw [show 2 * p + 2 = q + 1 by omega, hr]
          rw [suGo, e1, e2]
          dsimp only
          rw [if_pos hlt, ← hq']
        case hm => dsimp only; omega
        case hr =>
          intro z h2 h3
          simp only [List.forall_mem_cons, List.not_mem_nil, false_implies, implies_true, and_true, ne_eq] at h2
          simp only [List.contains_cons, List.contains_nil, Bool.or_false, beq_eq_false_iff_ne, ne_eq] at h3
          simp [kstB, h2, h3]
      · dsimp only
        rename itemLt _ _ = false => hlt
        refine sub_VI (q + 1) rfl (by assumption) (by omega) hr ?_
        walk_at "m_steps"
        (try dsimp only at *)
        refine set_VI ys[q + 1] (by assumption) (by assumption) hoff h1 (by omega) ?_
        intro h' F' N'
        walk_at "m_steps"
        (try dsimp only at *)
        rename_i F9 N9
        refine' ksw_end (c := (ys, p, t, t')) (ys.set p ys[q + 1], q + 1, ?ta2, ?tb2) F9 N9 (fun _ h => h) trivial ?hk ?hr ?hP ?hm
        case hk => kst_all
        case hP =>
          refine su_P h2 h1 h3 h4 h5 hr (show p < q + 1 by omega) fun f' => ?_
          have e1 : ys[2 * p + 1]? = some ys[q] := by rw [← hq', hc]
          have e2 : ys[2 * p + 2]? = some ys[q + 1] := by rw [show 2 * p + 2 = q + 1 by omega, hr]
          rw [suGo, e1, e2]
          dsimp only
          rw [if_neg (by rw [show viLt ys[q] ys[q + 1] = false from hlt]; decide), show 2 * p + 2 = q + 1 by omega]
        case hm => dsimp only; omega
        case hr =>
          intro z h2 h3
          simp only [List.forall_mem_cons, List.not_mem_nil, false_implies, implies_true, and_true, ne_eq] at h2
          simp only [List.contains_cons, List.contains_nil, Bool.or_false, beq_eq_false_iff_ne, ne_eq] at h3
          simp [kstB, h2, h3]
    · rename (q : Int) < _ => ha
      rename ¬ _ => hb
      have hc : ys[q]? = some ys[q] := List.getElem?_eq_getElem (by omega)
      refine sub_VI q rfl (by assumption) (by omega) hc ?_
      walk_at "m_steps"
      (try dsimp only at *)
      refine set_VI ys[q] (by assumption) (by assumption) hoff h1 (by omega) ?_
      intro h' F' N'
      walk_at "m_steps"
      (try dsimp only at *)
      rename_i F9 N9
      refine' ksw_end (c := (ys, p, t, t')) (ys.set p ys[q], q, ?ta3, ?tb3) F9 N9 (fun _ h => h) trivial ?hk ?hr ?hP ?hm
      case hk => kst_all
      case hP =>
        refine su_P h2 h1 h3 h4 h5 hc (show p < q by omega) fun f' => ?_
        have e1 : ys[2 * p + 1]? = some ys[q] := by rw [← hq', hc]
        have e2 : ys[2 * p + 2]? = none := List.getElem?_eq_none (by omega)
        rw [suGo, e1, e2]
        dsimp only
        rw [← hq']
      case hm => dsimp only; omega
      case hr =>
        intro z h2 h3
        simp only [List.forall_mem_cons, List.not_mem_nil, false_implies, implies_true, and_true, ne_eq] at h2
        simp only [List.contains_cons, List.contains_nil, Bool.or_false, beq_eq_false_iff_ne, ne_eq] at h3
        simp [kstB, h2, h3]
    · rename ¬ _ => hb
      refine set_VI x (by assumption) (by assumption) hoff h1 (by omega) ?_
      intro h' F' N'
      walk_at "m_steps"
      refine siftdown_t _ _ _ _ _ _ _ _ _ _ _ _ _ _ _ _ _ _ _ _ _ hp (ys.set p x) x n rest p t0 t (by assumption) (by assumption) (by assumption) (by assumption) (by assumption) rfl hoff ?_ (by omega) ?_ (by simpa using by omega) (by show dp + 1 + 5 < recursionLimit; omega) (by show un + 3 + 40 < cLine; omega) ?_
      · intro y hy
        rcases List.mem_or_eq_of_mem_set hy with hy | rfl
        · exact h3 _ hy
        · exact hit _ (List.mem_of_getElem? hx)
      · simp [h1]
      · intro h'' tk'' F'' N''
        walk_at "m_steps"
        have e : suGo viLt f ys p = (ys, p) := by
          have hf : f = (f - 1) + 1 := by omega
          have e1 : ys[2 * p + 1]? = none := List.getElem?_eq_none (by omega)
          rw [hf, suGo, e1]
        refine hret _ _ (by assumption) ?_
        rw [← h5, e]
        dsimp only
        assumption
end
end Mine

end
section -- S3
open PySem PySem.W PyProof.Rows
set_option maxRecDepth 100000
set_option maxHeartbeats 4000000
namespace Mine
theorem freshS3 : True := by
  w_top off
  trivial

local macro_rules | `(tactic| walk_at "m_stop") => `(tactic| first
  | with_reducible show wpAny _ _ (subscriptTail _ _ (Value.ref _) _) _ _ _
  | with_reducible show wpAny _ _ (setItem _ _ _) _ _ _
  | with_reducible show wpAny _ _ (truthy (Value.ref _)) _ _ _
  | with_reducible show wpAny _ _ (call (Value.builtin _) _ _) _ _ _
  | with_reducible show wpAny _ _ (call (Value.ref _) _ _) _ _ _)
local macro_rules | `(tactic| walk_at "m_steps") => `(tactic| repeat' (first | ((fail_if_success (walk_at "m_stop")); (first | (k_unfold; (try dsimp only)) | (k_end; wrow_close) | walk1 | (dsimp only; walk1) | (leave1; (try dsimp only))))))

section
variable {w : World} {mean : ExcName → Option Value} {mg mb : Str → Option Value} {dp un : Nat} {gd : Option (List Code)} {cn : Str} {cs : Scope} {a : Addr} {ccd : Value} {cl : List (Str × Addr)} {outer : List Env} {A₀ : Around} {base h₀ : Heap} {L : Addr} {m : Str → Option Value} {s : Shared}
    {Q E : Value → Shared → Prop} {hp : Addr} {n : Nat} {rest : List (Addr × Obj)}

theorem append_VI {prog : Program} {A : Around} {xs : List VI} (x : VI) (F : Fr h₀ L s.heap m) (N : News h₀ L s.heap ((hp, listOf (xs.map (·.1)).toArray n) :: rest)) (hoff : ∀ p ∈ rest, p.1 ≠ hp) (hlen : xs.length < 1000)
    (h : ∀ h', Fr h₀ L h' m → News h₀ L h' ((hp, listOf ((xs ++ [x]).map (·.1)).toArray (n + 1)) :: rest) → Q .none { s with heap := h' }) : wpAny (model prog w) A (call (.builtin "list.append") [.ref hp, x.1]) Q E s := by
  refine append_K F N (.head hoff) (fun h' F' N' => h h' F' ?_) (by rw [List.size_toArray, List.length_map, sizeLine_eq]; omega)
  have e : ((xs ++ [x]).map (·.1)).toArray = (xs.map (·.1)).toArray.push x.1 := by simp
  rw [e]; exact N'

theorem pop_VI {prog : Program} {A : Around} {xs : List VI} (x : VI) (F : Fr h₀ L s.heap m) (N : News h₀ L s.heap ((hp, listOf ((xs ++ [x]).map (·.1)).toArray n) :: rest)) (hoff : ∀ p ∈ rest, p.1 ≠ hp) (hlen : xs.length < 1000)
    (h : ∀ h', Fr h₀ L h' m → News h₀ L h' ((hp, listOf (xs.map (·.1)).toArray (n + 1)) :: rest) → Q x.1 { s with heap := h' }) : wpAny (model prog w) A (call (.builtin "list.pop") [.ref hp]) Q E s := by
  refine kl_pop (p := xs.map (·.1)) F N ?_ (.head hoff) (by simp; rw [sizeLine_eq]; omega) h
  show kl_last ((xs ++ [x]).map (·.1)) = _
  rw [List.map_append]
  exact kpa_last _ _

theorem truthy_VI {prog : Program} {A : Around} {Q : Bool → Shared → Prop} {xs : List VI} (N : News h₀ L s.heap ((hp, listOf (xs.map (·.1)).toArray n) :: rest)) (hlen : xs.length < 1000)
    (h : Q (!xs.isEmpty) { s with toks := s.toks + 1 + 1 }) : wpAny (model prog w) A (truthy (.ref hp)) Q E s := by
  have hl : s.heap.IsList hp (xs.map (·.1)).toArray := ⟨_, (N _ (.head _)).1, rfl, n, rfl⟩
  refine wpAny_truthy_list hl (by simp; omega) ?_
  have e : (!(xs.map (·.1)).toArray.isEmpty) = !xs.isEmpty := by cases xs <;> simp
  rw [e]; exact h

def hpush {α : Type} (lt : α → α → Bool) (x : α) (xs : List α) : List α := sdGo lt x xs.length (xs ++ [x]) xs.length

theorem heappush_t {xs : List VI} {x : VI} (B : Below A₀ base outer h₀) (F : Fr h₀ L s.heap m) (X : (Mine.hd.heap_39 w.params).In h₀) (T : Top Mine.hd.view_39 (looseW Mine.hd.view_39 [Str.ofString "_filemode_table"]) mean mg mb h₀) (hk : cs.kind = .function)
    (N : News h₀ L s.heap ((hp, listOf (xs.map (·.1)).toArray n) :: rest)) (hoff : ∀ p ∈ rest, p.1 ≠ hp) (hit : ∀ y ∈ xs, ItemIn rest y.1 y.2) (hx : ItemIn rest x.1 x.2) (hlen : xs.length + 1 < 1000) (hd : dp + 7 < recursionLimit) (hu : un + 60 < cLine)
    (hret : ∀ h' tk', Fr h₀ L h' m → News h₀ L h' ((hp, listOf ((hpush viLt x xs).map (·.1)).toArray (n + 1)) :: rest) → Q .none { s with heap := h', toks := tk' }) :
    wpAny (model Challenge.rw_oh0024_01.row.prog w) (ktrTop dp un gd cn cs L a ccd cl outer) (call (.ref 82) [.ref hp, x.1]) Q E s := by
  revert X
  k_fill
  intro X
  refine wpAny_call ?_
  k_dflt ktr_enter
  rename Fr _ _ _ (fun y => List.lookup y _) => F0
  replace F0 := frNorm F0 (show _ = mapOf [(Str.ofString "item", x.1), (Str.ofString "heap", .ref hp)] from rfl)
  walk_at "m_steps"
  refine append_VI x (by assumption) (by assumption) hoff (by omega) ?_
  intro h' F' N'
  walk_at "m_steps"
  refine len_V (by assumption) (.head _) (by simpa using hlen) ?_
  walk_at "m_steps"
  (try dsimp only)
  have e : ((List.map (fun x => x.1) (xs ++ [x])).length : Int) - 1 = (xs.length : Int) := by simp
  rw [e]
  refine siftdown_t _ _ _ _ _ _ _ _ _ _ _ _ _ _ _ _ _ _ _ _ _ hp (xs ++ [x]) x (n + 1) rest xs.length _ _ (by assumption) (by assumption) (by assumption) (by assumption) (by assumption) rfl hoff ?_ (by omega) ?_ (by simpa using by omega) (by show dp + 1 + 5 < recursionLimit; omega) (by show un + 3 + 40 < cLine; omega) ?_
  · intro y hy
    rcases List.mem_append.mp hy with hy | hy
    · exact hit _ hy
    · rw [List.mem_singleton.mp hy]; exact hx
  · simp
  · intro h'' tk'' F'' N''
    walk_at "m_steps"
    refine hret _ _ (by assumption) ?_
    rename News h₀ L _ _ => N9
    exact N9

def hpop {α : Type} (lt : α → α → Bool) (xs : List α) (x : α) : α × List α :=
  match xs with
  | [] => (x, [])
  | y :: ys => (y, let r := suGo lt (ys.length + 1) (x :: ys) 0; sdGo lt x r.2 (r.1.set r.2 x) r.2)

theorem heappop_t {xs : List VI} {x : VI} (B : Below A₀ base outer h₀) (F : Fr h₀ L s.heap m) (X : (Mine.hd.heap_39 w.params).In h₀) (T : Top Mine.hd.view_39 (looseW Mine.hd.view_39 [Str.ofString "_filemode_table"]) mean mg mb h₀) (hk : cs.kind = .function)
    (N : News h₀ L s.heap ((hp, listOf ((xs ++ [x]).map (·.1)).toArray n) :: rest)) (hoff : ∀ p ∈ rest, p.1 ≠ hp) (hit : ∀ y ∈ xs, ItemIn rest y.1 y.2) (hx : ItemIn rest x.1 x.2) (hlen : xs.length + 1 < 1000) (hd : dp + 8 < recursionLimit) (hu : un + 70 < cLine)
    (hret : ∀ h' tk', Fr h₀ L h' m → News h₀ L h' ((hp, listOf ((hpop viLt xs x).2.map (·.1)).toArray (n + 1)) :: rest) → Q (hpop viLt xs x).1.1 { s with heap := h', toks := tk' }) :
    wpAny (model Challenge.rw_oh0024_01.row.prog w) (ktrTop dp un gd cn cs L a ccd cl outer) (call (.ref 89) [.ref hp]) Q E s := by
  revert X
  k_fill
  intro X
  refine wpAny_call ?_
  k_dflt ktr_enter
  rename Fr _ _ _ (fun y => List.lookup y _) => F0
  replace F0 := frNorm F0 (show _ = mapOf [(Str.ofString "heap", .ref hp)] from rfl)
  walk_at "m_steps"
  refine pop_VI x (by assumption) (by assumption) hoff (by omega) ?_
  intro h' F' N'
  walk_at "m_steps"
  refine truthy_VI (by assumption) (by omega) ?_
  cases xs with
  | nil =>
    simp only [List.isEmpty_nil, Bool.not_true]
    walk_at "m_steps"
    exact hret _ _ (by assumption) (by assumption)
  | cons y ys =>
    simp only [List.isEmpty_cons, Bool.not_false]
    simp only [List.length_cons] at hlen
    walk_at "m_steps"
    refine sub_VI 0 rfl (by assumption) (by simpa using by omega) (x := y) (by simp) ?_
    walk_at "m_steps"
    refine set_VI (i := 0) x (by assumption) (by assumption) hoff (by simp) (by simpa using by omega) ?_
    intro h' F' N'
    walk_at "m_steps"
    refine siftup_t (xs := x :: ys) (x := x) (by assumption) (by assumption) (by assumption) (by assumption) rfl (by assumption) hoff ?_ rfl (by simpa using by omega) (by show dp + 1 + 6 < recursionLimit; omega) (by show un + 3 + 50 < cLine; omega) ?_
    · intro z hz
      rcases List.mem_cons.mp hz with rfl | hz
      · exact hx
      · exact hit _ (.tail _ hz)
    · intro h'' tk'' F'' N''
      walk_at "m_steps"
      exact hret _ _ (by assumption) (by assumption)
end
end Mine

end
section -- F1
open PySem PySem.W PyProof.Rows
set_option maxRecDepth 100000
namespace Mine
theorem freshF1 : True := by
  w_top off
  trivial

theorem newsSub {h₀ h : Heap} {L : Addr} {l l' : List (Addr × Obj)} (N : News h₀ L h l) (hs : ∀ p ∈ l', p ∈ l) : News h₀ L h l' := fun p hp => N p (hs p hp)

/-- how a turn of a `for` ends: the source's own objects (own) and the rest (nx) apart -/
def ForEnd (h₀ : Heap) (L : Addr) (own : List (Addr × Obj)) (J : (Str → Option Value) → List (Addr × Obj) → Prop) (s s₃ : Shared) : Prop :=
  ∃ h' tk m' nx, s₃ = { s with heap := h', toks := tk } ∧ Fr h₀ L h' m' ∧ News h₀ L h' (own ++ nx) ∧ (∀ p ∈ nx, ∀ q ∈ own, p.1 ≠ q.1) ∧ J m' nx
def ForPost (h₀ : Heap) (L : Addr) (own : List (Addr × Obj)) (J : (Str → Option Value) → List (Addr × Obj) → Prop) (s : Shared) (Q : Flow → Shared → Prop) (f : Flow) (s₃ : Shared) : Prop :=
  match f with
  | .ret v => Q (.ret v) s₃
  | .brk => Q .next s₃
  | _ => ForEnd h₀ L own J s s₃
theorem forEnd {h₀ : Heap} {L : Addr} {own : List (Addr × Obj)} {J : (Str → Option Value) → List (Addr × Obj) → Prop} {s : Shared} {h' : Heap} {tk : Nat} {m' : Str → Option Value} {nx : List (Addr × Obj)}
    (F : Fr h₀ L h' m') (N : News h₀ L h' (own ++ nx)) (hoff : ∀ p ∈ nx, ∀ q ∈ own, p.1 ≠ q.1) (hJ : J m' nx) : ForEnd h₀ L own J s { s with heap := h', toks := tk } := ⟨h', tk, m', nx, rfl, F, N, hoff, hJ⟩

section
variable {prog : Program} {w : World} {A : Around} {E : Value → Shared → Prop} {s : Shared} {env : Env} {h₀ : Heap} {target : Expr} {body orelse : List Stmt} {Q : Flow → Shared → Prop}

theorem for_run {I : Addr} {fp wr : List Addr} {n : Nat} {P Md : Nat → Value → Heap → Prop} {St : Nat → Heap → Prop} {m : Str → Option Value} {news keep : List (Addr × Obj)} (W : KTurns prog w A target I fp wr n P Md St)
    (hL : env.locals ∉ wr) (hwr : ∀ b ∈ wr, h₀.get? b = none) (hfp : ∀ b ∈ fp, b ∈ wr ∨ (∃ o, h₀.get? b = some o) ∨ ∃ o, (b, o) ∈ keep) (hlive : ∀ i h, St i h → ∀ b ∈ wr, ∃ o, h.get? b = some o)
    (hnw : ∀ p ∈ news, p.1 ∉ wr) (hst : St 0 s.heap) (F : Fr h₀ env.locals s.heap m) (N : News h₀ env.locals s.heap news)
    (J : Nat → (Str → Option Value) → List (Addr × Obj) → Prop) (h0 : J 0 m news) (hkeep : ∀ i m nx, J i m nx → ∀ q ∈ keep, q ∈ nx)
    (turn : ∀ i v m₁ nx h tk own, i < n → P i v h → J i m₁ nx → (∀ p ∈ nx, ∀ q ∈ own, p.1 ≠ q.1) → Fr h₀ env.locals h m₁ → News h₀ env.locals h (own ++ nx) →
      wpAny (model prog w) A (assign target env v) (fun _ s₂ => wpAny (model prog w) A (execs body env) (ForPost h₀ env.locals own (J (i + 1)) s Q) E s₂) E { s with heap := h, toks := tk })
    (done : ∀ m₁ nx h tk, J n m₁ nx → Fr h₀ env.locals h m₁ → News h₀ env.locals h nx → wpAny (model prog w) A (execs orelse env) Q E { s with heap := h, toks := tk })
    (hE : PassesOwn (model prog w) A env E) :
    codeAny (model prog w) A (.forLoop target (.ref I) body orelse env) (fun r s' => match r with | .ok f => Q f s' | .error e => cameBackBy (model prog w) A env E e s') s := by
  have old : ∀ b o, h₀.get? b = some o → b ∉ wr := fun b o e hb => by rw [hwr b hb] at e; cases e
  refine codeAny_forLoop_any
    (fun k s' => ∃ h' tk m' nx i, s' = { s with heap := h', toks := tk } ∧ St i h' ∧ Fr h₀ env.locals h' m' ∧ News h₀ env.locals h' nx ∧ (∀ p ∈ nx, p.1 ∉ wr) ∧ J i m' nx ∧ i ≤ n ∧ k = n + 1 - i) ?_ (n + 1)
    ⟨s.heap, s.toks, m, news, 0, rfl, hst, F, N, hnw, h0, Nat.zero_le _, rfl⟩
  rintro k s' ⟨h', tk, m', nx, i, rfl, hst', F', N', hnw', hJ, hi, rfl⟩
  have next : ∀ h₁ : Heap, (∀ b o, b ∉ wr → h'.get? b = some o → h₁.get? b = some o) → Fr h₀ env.locals h₁ m' ∧ News h₀ env.locals h₁ nx := fun h₁ hk₁ =>
    ⟨⟨F'.ns.at' fun o e => hk₁ _ o hL e, fun b o e => hk₁ b o (old b o e) (F'.keep b o e), F'.above⟩, fun p hp => ⟨hk₁ _ _ (hnw' p hp) (N' p hp).1, (N' p hp).2⟩⟩
  by_cases hlt : i < n
  · refine W.item i _ _ _ hlt hst' fun v h₁ tk₁ hMd hk₁ => ?_
    refine W.go i v _ _ _ hMd fun h₂ hP hst₂ hk₂ => ?_
    obtain ⟨F₂, N₂⟩ := next h₂ fun b o hb x => hk₂ b o hb (hk₁ b o hb x)
    have Nown : News h₀ env.locals h₂ (PyProof.Rows.ownOf h₀ wr h₂) := news_ownOf hL
    have hoff : ∀ p ∈ nx, ∀ q ∈ PyProof.Rows.ownOf h₀ wr h₂, p.1 ≠ q.1 := fun p hp q hq e => hnw' p hp (e ▸ ownOf_sub q hq)
    have fin : ∀ s₃, ForEnd h₀ env.locals (PyProof.Rows.ownOf h₀ wr h₂) (J (i + 1)) s s₃ → ∃ m₁, m₁ < n + 1 - i ∧ ∃ h' tk m' nx i, s₃ = { s with heap := h', toks := tk } ∧ St i h' ∧ Fr h₀ env.locals h' m' ∧ News h₀ env.locals h' nx ∧ (∀ p ∈ nx, p.1 ∉ wr) ∧ J i m' nx ∧ i ≤ n ∧ m₁ = n + 1 - i := by
      rintro s₃ ⟨h₃, tk₃, m₃, nx₃, rfl, F₃, N₃, hoff₃, hJ₃⟩
      refine ⟨n + 1 - (i + 1), by omega, h₃, tk₃, m₃, nx₃, i + 1, rfl, ?_, F₃, N₃.right, ?_, hJ₃, hlt, rfl⟩
      · refine W.frame _ _ _ hst₂ fun b hb o e => ?_
        rcases hfp b hb with hb' | ⟨o₀, ho₀⟩ | ⟨o', ho'⟩
        · exact (N₃ _ (List.mem_append_left _ (mem_ownOf hb' (hwr b hb') e))).1
        · have q := F₂.keep b o₀ ho₀
          rw [e] at q
          cases q
          exact F₃.keep b o ho₀
        · have q := (N₂ _ (hkeep _ _ _ hJ _ ho')).1
          rw [e] at q
          cases q
          exact (N₃ _ (List.mem_append_right _ (hkeep _ _ _ hJ₃ _ ho'))).1
      · intro p hp hb
        obtain ⟨o, ho⟩ := hlive _ _ hst₂ _ hb
        exact hoff₃ p hp _ (mem_ownOf hb (hwr _ hb) ho) rfl
    have T := turn i v m' nx h₂ tk₁ (PyProof.Rows.ownOf h₀ wr h₂) hlt hP hJ hoff F₂ (Nown.append N₂)
    refine wpAny_mono T (fun _ s₂ h₂' => wpAny_mono (wpAny_passesOwn hE h₂') (fun f s₃ h₃ => ?_) fun _ _ e => e) fun e s' x => hE e s' x
    cases f with
    | ret v => exact h₃
    | brk => exact h₃
    | cont => exact fin _ h₃
    | next => exact fin _ h₃
  · have hin : i = n := by omega
    subst hin
    refine W.done _ _ _ hst' fun h₁ tk₁ hk₁ => ?_
    obtain ⟨F₁, N₁⟩ := next h₁ hk₁
    exact wpAny_mono (wpAny_passesOwn hE (done m' nx h₁ tk₁ hJ F₁ N₁)) (fun _ _ x => x) fun _ _ e => e

abbrev ForAt (prog : Program) (w : World) (A : Around) (env : Env) (target : Expr) (body orelse : List Stmt) (Q : Flow → Shared → Prop) (E : Value → Shared → Prop) (it : Value) (s₂ : Shared) : Prop :=
  codeAny (model prog w) A (.forLoop target it body orelse env) (fun r s' => match r with | .ok f => Q f s' | .error e => cameBackBy (model prog w) A env E e s') s₂

/-- over a list of the ledger's -/
theorem for_list {l : Addr} {vs : List Value} {n : Nat} {m : Str → Option Value} {news : List (Addr × Obj)} (hh : A.handled = none) (F : Fr h₀ env.locals s.heap m) (N : News h₀ env.locals s.heap news)
    (hm : (l, listOf vs.toArray n) ∈ news)
    (J : Nat → (Str → Option Value) → List (Addr × Obj) → Prop) (h0 : J 0 m news) (hkeep : ∀ i m nx, J i m nx → (l, listOf vs.toArray n) ∈ nx)
    (turn : ∀ i v m₁ nx h tk own, vs[i]? = some v → J i m₁ nx → (∀ p ∈ nx, ∀ q ∈ own, p.1 ≠ q.1) → Fr h₀ env.locals h m₁ → News h₀ env.locals h (own ++ nx) →
      wpAny (model prog w) A (assign target env v) (fun _ s₂ => wpAny (model prog w) A (execs body env) (ForPost h₀ env.locals own (J (i + 1)) s Q) E s₂) E { s with heap := h, toks := tk })
    (done : ∀ m₁ nx h tk, J vs.length m₁ nx → Fr h₀ env.locals h m₁ → News h₀ env.locals h nx → wpAny (model prog w) A (execs orelse env) Q E { s with heap := h, toks := tk })
    (hE : PassesOwn (model prog w) A env E := by passes_own) :
    wpAny (model prog w) A (pyIter (.ref l)) (fun it s₂ => ForAt prog w A env target body orelse Q E it s₂) E s := by
  have hax := N _ hm
  have hl : s.heap.IsList l vs.toArray := ⟨_, hax.1, rfl, n, rfl⟩
  have hlt : l < s.heap.objs.size := Heap.lt_size hax.1
  refine wpAny_pyIter_list hl ?_
  refine for_run (keep := [(l, listOf vs.toArray n)]) (KTurns.ofWalks (Walks.list hh s.heap.objs.size l (Nat.ne_of_lt hlt) vs.toArray) fun i v s Q E st q => letGo_listiter st.1 q)
    ?_ ?_ ?_ ?_ ?_ ?_ (F.push _) (fun p hp => ⟨Heap.get?_push_of_some _ (N p hp).1, (N p hp).2⟩) J h0 ?_ ?_ ?_ hE
  · intro hI
    exact absurd F.ns.lt (List.mem_singleton.mp hI ▸ Nat.lt_irrefl _)
  · intro b hb
    rw [List.mem_singleton.mp hb]; exact next_is_new F
  · intro b hb
    rcases List.mem_cons.mp hb with e | hb
    · exact .inl (by simp [e])
    · exact .inr (.inr ⟨_, by rw [List.mem_singleton.mp hb]; exact .head _⟩)
  · intro i h st b hb
    rw [List.mem_singleton.mp hb]
    obtain ⟨it, hit, _⟩ := st.1
    exact ⟨it, hit⟩
  · intro p hp hI
    exact absurd (Heap.lt_size (N p hp).1) ((List.mem_singleton.mp hI) ▸ Nat.lt_irrefl _)
  · exact ⟨⟨_, Heap.get?_push_size _ rfl, rfl, rfl⟩, hl.at fun o e => Heap.get?_push_of_some _ e⟩
  · intro i m nx hJ q hq
    rw [List.mem_singleton.mp hq]; exact hkeep i m nx hJ
  · intro i v m₁ nx h tk own hi hP hJ hoff F' N'
    exact turn i v m₁ nx h tk own (by simpa using hP) hJ hoff F' N'
  · intro m₁ nx h tk hJ F' N'
    exact done m₁ nx h tk (by simpa using hJ) F' N'

/-- over a tuple that stands beneath the frame -/
theorem for_tup {l : Addr} {lo : Obj} {vs : List Value} {n : Nat} {m : Str → Option Value} {news : List (Addr × Obj)} (hh : A.handled = none) (F : Fr h₀ env.locals s.heap m) (N : News h₀ env.locals s.heap news)
    (hg : h₀.get? l = some lo) (hc : lo.cls = .type "tuple") (hd : lo.data = .seq vs.toArray n)
    (J : Nat → (Str → Option Value) → List (Addr × Obj) → Prop) (h0 : J 0 m news)
    (turn : ∀ i v m₁ nx h tk own, vs[i]? = some v → J i m₁ nx → (∀ p ∈ nx, ∀ q ∈ own, p.1 ≠ q.1) → Fr h₀ env.locals h m₁ → News h₀ env.locals h (own ++ nx) →
      wpAny (model prog w) A (assign target env v) (fun _ s₂ => wpAny (model prog w) A (execs body env) (ForPost h₀ env.locals own (J (i + 1)) s Q) E s₂) E { s with heap := h, toks := tk })
    (done : ∀ m₁ nx h tk, J vs.length m₁ nx → Fr h₀ env.locals h m₁ → News h₀ env.locals h nx → wpAny (model prog w) A (execs orelse env) Q E { s with heap := h, toks := tk })
    (hE : PassesOwn (model prog w) A env E := by passes_own) :
    wpAny (model prog w) A (pyIter (.ref l)) (fun it s₂ => ForAt prog w A env target body orelse Q E it s₂) E s := by
  have hax : s.heap.get? l = some lo := F.keep _ _ hg
  have hl : s.heap.IsTuple l vs.toArray := ⟨lo, hax, hc, n, hd⟩
  have hlt : l < s.heap.objs.size := Heap.lt_size hax
  refine wpAny_pyIter_tuple hl ?_
  refine for_run (keep := []) (KTurns.ofWalks (Walks.tuple hh s.heap.objs.size l (Nat.ne_of_lt hlt) vs.toArray) fun i v s Q E st q => letGo_tupleiter st.1 q)
    ?_ ?_ ?_ ?_ ?_ ?_ (F.push _) (fun p hp => ⟨Heap.get?_push_of_some _ (N p hp).1, (N p hp).2⟩) J h0 (fun _ _ _ _ q hq => nomatch hq) ?_ ?_ hE
  · intro hI
    exact absurd F.ns.lt (List.mem_singleton.mp hI ▸ Nat.lt_irrefl _)
  · intro b hb
    rw [List.mem_singleton.mp hb]; exact next_is_new F
  · intro b hb
    rcases List.mem_cons.mp hb with e | hb
    · exact .inl (by simp [e])
    · exact .inr (.inl ⟨lo, by rw [List.mem_singleton.mp hb]; exact hg⟩)
  · intro i h st b hb
    rw [List.mem_singleton.mp hb]
    obtain ⟨it, hit, _⟩ := st.1
    exact ⟨it, hit⟩
  · intro p hp hI
    exact absurd (Heap.lt_size (N p hp).1) ((List.mem_singleton.mp hI) ▸ Nat.lt_irrefl _)
  · exact ⟨⟨_, Heap.get?_push_size _ rfl, rfl, rfl⟩, hl.at fun o e => Heap.get?_push_of_some _ e⟩
  · intro i v m₁ nx h tk own hi hP hJ hoff F' N'
    exact turn i v m₁ nx h tk own (by simpa using hP) hJ hoff F' N'
  · intro m₁ nx h tk hJ F' N'
    exact done m₁ nx h tk (by simpa using hJ) F' N'

/-- over range(0, n) -/
theorem for_range {r : Addr} {b : Int} {t u v : Tok} {k : Nat} {x : Str} {px : Pos} {m : Str → Option Value} {news : List (Addr × Obj)} (hh : A.handled = none) (hr : IsRange s.heap r 0 b 1 t u v) (hb : b = k) (hk : k < 1000) (F : Fr h₀ env.locals s.heap m) (N : News h₀ env.locals s.heap news)
    (J : Nat → (Str → Option Value) → List (Addr × Obj) → Prop) (h0 : J 0 m news)
    (turn : ∀ (i : Nat) ti m₁ nx h tk own, i < k → J i m₁ nx → (∀ p ∈ nx, ∀ q ∈ own, p.1 ≠ q.1) → Fr h₀ env.locals h m₁ → News h₀ env.locals h (own ++ nx) →
      wpAny (model prog w) A (assign (.Name x px) env (.int i ti)) (fun _ s₂ => wpAny (model prog w) A (execs body env) (ForPost h₀ env.locals own (J (i + 1)) s Q) E s₂) E { s with heap := h, toks := tk })
    (done : ∀ m₁ nx h tk, J k m₁ nx → Fr h₀ env.locals h m₁ → News h₀ env.locals h nx → wpAny (model prog w) A (execs orelse env) Q E { s with heap := h, toks := tk })
    (hE : PassesOwn (model prog w) A env E := by passes_own) :
    wpAny (model prog w) A (pyIter (.ref r)) (fun it s₂ => ForAt prog w A env (.Name x px) body orelse Q E it s₂) E s := by
  subst hb
  have hsz : Builtin.Range.rangeSize 0 (k : Int) 1 = (k : Int) := by rw [PyProof.Rows.rangeSize_nat]; simp
  refine wpAny_pyIter_range hr (small_one (by omega) (by omega) (by omega) (by omega)) ?_
  rw [hsz]
  refine for_run (keep := []) (KTurns.ofWalks (Walks.range hh s.heap.objs.size 0 1 k) fun i v s Q E st q => wpAny_pure q)
    ?_ ?_ ?_ ?_ ?_ ?_ (F.push _) (fun p hp => ⟨Heap.get?_push_of_some _ (N p hp).1, (N p hp).2⟩) J h0 (fun _ _ _ _ q hq => nomatch hq) ?_ ?_ hE
  · intro hI
    exact absurd F.ns.lt (List.mem_singleton.mp hI ▸ Nat.lt_irrefl _)
  · intro b hb
    rw [List.mem_singleton.mp hb]; exact next_is_new F
  · intro b hb
    exact .inl hb
  · intro i h st b hb
    rw [List.mem_singleton.mp hb]
    exact ⟨_, st⟩
  · intro p hp hI
    exact absurd (Heap.lt_size (N p hp).1) ((List.mem_singleton.mp hI) ▸ Nat.lt_irrefl _)
  · show IsRangeIter _ _ _ _ _
    simpa using Heap.get?_push_size s.heap (o := { cls := .type "range_iterator", data := .fields #[rawInt 0, rawInt (k : Int), rawInt 1] }) rfl
  · rintro i v m₁ nx h tk own hi ⟨ti, rfl⟩ hJ hoff F' N'
    have e : (0 : Int) + (i : Int) * 1 = i := by omega
    rw [e]
    exact turn i ti m₁ nx h tk own hi hJ hoff F' N'
  · intro m₁ nx h tk hJ F' N'
    exact done m₁ nx h tk hJ F' N'
end
end Mine

end
section -- F2
open PySem PySem.W PyProof.Rows
open AutoSeq1 (wpAny_loadPart')
set_option maxRecDepth 100000
namespace Mine
theorem freshF2 : True := by
  w_top off
  trivial

theorem enumNewT (l : Addr) (items : Array Value) (n : Nat) (dct : Option Addr) (sl : Array (Option Value)) :
    Meets (Builtin.«enumerate.__new__» ⟨[.type "enumerate", .ref l], []⟩) (fun _ R s => s.heap.get? l = some { cls := .type "tuple", dict := dct, data := .seq items n, slots := sl } ∧
      R (.ok (.ret (.ref (s.heap.push { cls := .type "tuple_iterator", data := .fields #[.ref l, .int 0 0] }).objs.size)))
        { s with heap := (s.heap.push { cls := .type "tuple_iterator", data := .fields #[.ref l, .int 0 0] }).push { cls := .type "enumerate", data := .fields #[.none, .bool false, .ref s.heap.objs.size, rawInt 0, .none, .none] } }) :=
  .of_wp fun prog w A R s h => by
    obtain ⟨hp, g, d, tk, os⟩ := s; obtain ⟨hl, h⟩ := h
    have hsub := sub_enumerate
    have hL : Heap.IsTuple (Shared.heap ⟨hp, g, d, tk, os⟩) l items := ⟨_, hl, rfl, n, rfl⟩
    wp_walk using wpAny_loadPart' hl
    refine wpAny_stack_any fun st => wpAny_pure ?_
    split
    · rename_i c _ _ _ _ _
      cases (c == Value.type "enumerate")
      · wp_walk using wpAny_loadPart' hl, wpAny_pyIter_tuple hL
        exact ⟨_, rfl, h⟩
      · wp_walk using wpAny_loadPart' hl, wpAny_pyIter_tuple hL
        exact ⟨_, rfl, h⟩
    · wp_walk using wpAny_loadPart' hl, wpAny_pyIter_tuple hL
      exact ⟨_, rfl, h⟩

section
variable {prog : Program} {w : World} {A : Around} {E : Value → Shared → Prop} {s : Shared}

theorem callEnumT {l : Addr} {items : Array Value} {Q : Value → Shared → Prop} (hL : s.heap.IsTuple l items)
    (h : ∀ h', IsEnum h' (s.heap.objs.size + 1) s.heap.objs.size 0 .none → h'.IsTupleIter s.heap.objs.size l 0 → h'.objs.size = s.heap.objs.size + 2 →
      (∀ b o, s.heap.get? b = some o → h'.get? b = some o) → Q (.ref (s.heap.objs.size + 1)) { s with heap := h' }) :
    wpAny (model prog w) A (call (.type "enumerate") [.ref l]) Q E s := by
  obtain ⟨⟨c, dct, dt, sl⟩, hl, hc, n, hd⟩ := hL
  replace hc : c = .type "tuple" := hc
  replace hd : dt = .seq items n := hd
  subst hc hd
  refine callType_new F.called_enumerate (by decide) (F.typeCall_enumerate_1 _) (F.newCall_enumerate_1 _) (fun obj => F.args_object_init_2 obj _) F.entry_enumerate_new
    (enumNewT l items n dct sl) ⟨hl, ?_⟩
  have hz : (s.heap.push { cls := .type "tuple_iterator", data := .fields #[.ref l, .int 0 0] }).objs.size = s.heap.objs.size + 1 := Heap.size_push ..
  show _ ∧ _
  rw [hz]
  have he : IsEnum ((s.heap.push { cls := .type "tuple_iterator", data := .fields #[.ref l, .int 0 0] }).push
      { cls := .type "enumerate", data := .fields #[.none, .bool false, .ref s.heap.objs.size, rawInt 0, .none, .none] }) (s.heap.objs.size + 1) s.heap.objs.size 0 .none := by
    have := Heap.get?_push_size (s.heap.push { cls := .type "tuple_iterator", data := .fields #[.ref l, .int 0 0] })
      (o := { cls := .type "enumerate", data := .fields #[.none, .bool false, .ref s.heap.objs.size, rawInt 0, .none, .none] }) rfl
    rw [hz] at this; exact this
  refine ⟨⟨_, he, rfl⟩, h _ he ⟨_, Heap.get?_push_of_some _ (Heap.get?_push_size _ rfl), rfl, rfl⟩ (by rw [Heap.size_push, hz]) fun b o x => Heap.get?_push_of_some _ (Heap.get?_push_of_some _ x)⟩

theorem nextOfT {it l : Addr} {i : Nat} {items} {x : Value} {Q : Value → Shared → Prop} (hit : s.heap.IsTupleIter it l i)
    (hl : s.heap.IsTuple l items) (hx : items[i]? = some x)
    (hQ : ∀ h', h'.IsTupleIter it l (i + 1) → Heap.SameBut it s.heap h' → Q x { s with heap := h' }) :
    wpAny (model prog w) A (Builtin.SmallTypes.nextOf (.ref it)) Q E s := by
  obtain ⟨o, ho, hc, hd⟩ := id hit
  obtain ⟨ol, hol, _, nl, hdl⟩ := hl
  unfold Builtin.SmallTypes.nextOf
  refine wpAny_bind (wpAny_callSpecial?_slot (name := Str.ofString "__next__") hit.typeIs F.slot_tuple_iterator_next
    (wpAny_call_entry F.slot_tuple_iterator_next hit.typeIs F.entry_tuple_iterator_next ?_ (F.args_tuple_iterator_next_1 _)))
  show wpAny _ _ (field (.ref it) 0 >>= _) _ _ s
  refine wpAny_bind (wpAny_field ho hd (x := .ref l) rfl ?_)
  show wpAny _ _ (if (Value.ref l == Value.none) = true then _ else _) _ _ s
  rw [if_neg (show ¬ ((Value.ref l == Value.none) = true) from Bool.false_ne_true)]
  show wpAny _ _ (field (.ref it) 1 >>= _) _ _ s
  refine wpAny_bind (wpAny_field ho hd (x := .int i 0) rfl ?_)
  show wpAny _ _ (seqItems? (.ref l) >>= _) _ _ s
  refine wpAny_bind (wpAny_seqItems hol hdl ?_)
  simp only [Int.toNat_natCast, hx]
  refine wpAny_bind (wpAny_setField ho hd (by simp) (wpAny_pure ⟨x, rfl, wpAny_pure (hQ _ ?_ (Heap.SameBut.update ..))⟩))
  exact ⟨_, Heap.get?_update_self _ ho (Obj.isFreed_of_fields (Obj.data_mapFields hd _)), (Obj.cls_mapFields ..).trans hc, by
    rw [Obj.data_mapFields hd]; simp [rawInt]⟩

theorem nextOfTend {it l : Addr} {i : Nat} {items} {Q : Value → Shared → Prop} (hh : A.handled = none)
    (hit : s.heap.IsTupleIter it l i) (hl : s.heap.IsTuple l items) (hx : items[i]? = none)
    (hE : ∀ h' e, Heap.ExtBut it s.heap h' → (∃ o, h'.get? e = some o ∧ o.cls = .type "StopIteration") → E (.ref e) { s with heap := h' }) :
    wpAny (model prog w) A (Builtin.SmallTypes.nextOf (.ref it)) Q E s := by
  obtain ⟨o, ho, hc, hd⟩ := id hit
  obtain ⟨ol, hol, _, nl, hdl⟩ := hl
  unfold Builtin.SmallTypes.nextOf
  refine wpAny_bind (wpAny_callSpecial?_slot (name := Str.ofString "__next__") hit.typeIs F.slot_tuple_iterator_next
    (wpAny_call_entry F.slot_tuple_iterator_next hit.typeIs F.entry_tuple_iterator_next ?_ (F.args_tuple_iterator_next_1 _)))
  show wpAny _ _ (field (.ref it) 0 >>= _) _ _ s
  refine wpAny_bind (wpAny_field ho hd (x := .ref l) rfl ?_)
  show wpAny _ _ (if (Value.ref l == Value.none) = true then _ else _) _ _ s
  rw [if_neg (show ¬ ((Value.ref l == Value.none) = true) from Bool.false_ne_true)]
  show wpAny _ _ (field (.ref it) 1 >>= _) _ _ s
  refine wpAny_bind (wpAny_field ho hd (x := .int i 0) rfl ?_)
  show wpAny _ _ (seqItems? (.ref l) >>= _) _ _ s
  refine wpAny_bind (wpAny_seqItems hol hdl ?_)
  simp only [Int.toNat_natCast, hx]
  refine wpAny_bind (wpAny_rule (wpAny_bind (wpAny_setField ho hd (by simp) ?_)))
  show wpAny _ _ (newExc (.type "StopIteration") [] >>= _) _ _ _
  refine wpAny_bind ?_
  simp only [newExc, newTuple]
  refine wpAny_bind (wpAny_newObj_type ?_ (by size_fits))
  refine wpAny_bind (m := firstArgMember _ _) (wpAny_of_eq (a := Value.none) (by first | rfl | (simp only [firstArgMember]; rfl)) ?_)
  refine wpAny_newObj_type ?_ (by size_fits)
  simp only [raiseNew]
  refine wpAny_bind (wpAny_handled ?_)
  first | rw [show A.in1.handled = none from hh] | rw [hh]
  refine wpAny_bind (wpAny_pure (wpAny_throw ?_))
  exact hE _ _ (((Heap.SameBut.update ..).extBut.push _).push _) ⟨_, Heap.get?_push_size _ rfl, rfl⟩
end

theorem drawsT {prog : Program} {w : World} {A : Around} (hh : A.handled = none) (it l : Addr) (hne : l ≠ it) (items : Array Value) :
    Draws prog w A it [it, l] items.size (fun i v => items[i]? = some v) (fun i h => h.IsTupleIter it l i ∧ h.IsTuple l items) where
  live := fun _ _ st => let ⟨o, ho, _⟩ := st.1; ⟨o, ho⟩
  frame := fun _ _ _ st hk => ⟨let ⟨o, ho, r⟩ := st.1; ⟨o, hk it (by simp) o ho, r⟩, let ⟨o, ho, r⟩ := st.2; ⟨o, hk l (by simp) o ho, r⟩⟩
  item := fun i s Q E hi st hQ => by
    refine nextOfT st.1 st.2 (x := items[i]) (by simp [hi]) fun h' hit' hs' => ?_
    exact hQ _ h' s.toks (by simp [hi]) ⟨hit', st.2.extBut hs'.extBut hne⟩ hs'
  done := fun s Q E st hE => nextOfTend hh st.1 st.2 (by simp) hE

section
variable {prog : Program} {w : World} {A : Around} {E : Value → Shared → Prop} {s : Shared} {env : Env} {h₀ : Heap} {body orelse : List Stmt} {Q : Flow → Shared → Prop}
/-- over enumerate of a tuple that stands beneath the frame -/
theorem for_enum {elts : List Expr} {kk : Nat} {pos : Pos} {l : Addr} {lo : Obj} {vs : List Value} {n : Nat} {m : Str → Option Value} {news : List (Addr × Obj)} (hh : A.handled = none) (F : Fr h₀ env.locals s.heap m) (N : News h₀ env.locals s.heap news)
    (hg : h₀.get? l = some lo) (hc : lo.cls = .type "tuple") (hd : lo.data = .seq vs.toArray n)
    (J : Nat → (Str → Option Value) → List (Addr × Obj) → Prop) (h0 : J 0 m news)
    (turn : ∀ (i : Nat) T t v m₁ nx h tk own, vs[i]? = some v → h.IsTuple T #[.int i t, v] → J i m₁ nx → (∀ p ∈ nx, ∀ q ∈ own, p.1 ≠ q.1) → Fr h₀ env.locals h m₁ → News h₀ env.locals h (own ++ nx) →
      wpAny (model prog w) A (assign (.Tuple elts kk pos) env (.ref T)) (fun _ s₂ => wpAny (model prog w) A (execs body env) (ForPost h₀ env.locals own (J (i + 1)) s Q) E s₂) E { s with heap := h, toks := tk })
    (done : ∀ m₁ nx h tk, J vs.length m₁ nx → Fr h₀ env.locals h m₁ → News h₀ env.locals h nx → wpAny (model prog w) A (execs orelse env) Q E { s with heap := h, toks := tk })
    (hE : PassesOwn (model prog w) A env E := by passes_own) :
    wpAny (model prog w) A (call (.type "enumerate") [.ref l]) (fun xv s₁ => wpAny (model prog w) A (pyIter xv) (fun it s₂ => ForAt prog w A env (.Tuple elts kk pos) body orelse Q E it s₂) E s₁) E s := by
  have hax : s.heap.get? l = some lo := F.keep _ _ hg
  have hl : s.heap.IsTuple l vs.toArray := ⟨lo, hax, hc, n, hd⟩
  have hlt : l < s.heap.objs.size := Heap.lt_size hax
  have hLs : env.locals < s.heap.objs.size := F.ns.lt
  refine callEnumT hl fun h' hEn hI hsz hk => ?_
  refine wpAny_pyIter_enum hEn ?_
  have hwl : ∀ b : Addr, b ∈ [s.heap.objs.size + 1, s.heap.objs.size] → s.heap.objs.size ≤ b := by
    intro b hb
    rcases List.mem_cons.mp hb with rfl | hb
    · exact Nat.le_succ _
    · rw [List.mem_singleton.mp hb]; exact Nat.le_refl _
  refine for_run (s := { s with heap := h' }) (keep := []) (KTurns.ofWalksU (WalksT.enumerateD (drawsT (A := A.in1) hh s.heap.objs.size l (Nat.ne_of_lt hlt) vs.toArray) (s.heap.objs.size + 1) (Nat.succ_ne_self _) ?_ (.head _)).toU)
    ?_ ?_ ?_ ?_ ?_ ?_ (F.keeps hk) (N.grown hk) J h0 (fun _ _ _ _ q hq => nomatch hq) ?_ ?_ hE
  · intro hx
    rcases List.mem_cons.mp hx with e | hx
    · exact absurd e (Nat.succ_ne_self _)
    · have e := List.mem_singleton.mp hx
      exact absurd hlt (by rw [← e]; exact Nat.not_lt.mpr (Nat.le_succ _))
  · intro hx
    exact absurd hLs (Nat.not_lt.mpr (hwl _ hx))
  · intro b hb
    exact ktu_new F (hwl b hb)
  · intro b hb
    have hb' : b = s.heap.objs.size + 1 ∨ b = s.heap.objs.size ∨ b = l := by simpa using hb
    rcases hb' with e | e | e
    · exact .inl (by simp [e])
    · exact .inl (by simp [e])
    · exact .inr (.inl ⟨lo, by rw [e]; exact hg⟩)
  · rintro i h ⟨⟨o, ho⟩, ⟨oi, hoi, _⟩, _⟩ b hb
    have hb' : b = s.heap.objs.size + 1 ∨ b = s.heap.objs.size := by simpa using hb
    rcases hb' with e | e
    · exact ⟨_, by rw [e]; exact ho⟩
    · exact ⟨_, by rw [e]; exact hoi⟩
  · intro p hp hx
    exact absurd (Heap.lt_size (N p hp).1) (Nat.not_lt.mpr (hwl _ hx))
  · exact ⟨⟨_, hEn⟩, hI, let ⟨o, ho, r⟩ := hl; ⟨o, hk _ _ ho, r⟩⟩
  · rintro i v m₁ nx h tk own hi ⟨T, vals, rfl, ⟨t, x, hx, rfl⟩, hT⟩ hJ hoff F' N'
    exact turn i T t x m₁ nx h tk own (by simpa using hx) hT hJ hoff F' N'
  · intro m₁ nx h tk hJ F' N'
    exact done m₁ nx h tk (by simpa using hJ) F' N'
end
end Mine

end
section -- S4
open PySem PySem.W PyProof.Rows
set_option maxRecDepth 100000
set_option maxHeartbeats 4000000
namespace Mine
theorem freshS4 : True := by
  w_top off
  trivial

/-- the table of filemode as data -/
def fmTable : List (List (Int × Str)) :=
  [[(40960, Str.ofString "l"), (49152, Str.ofString "s"), (32768, Str.ofString "-"), (24576, Str.ofString "b"), (16384, Str.ofString "d"), (8192, Str.ofString "c"), (4096, Str.ofString "p")],
   [(256, Str.ofString "r")], [(128, Str.ofString "w")], [(2112, Str.ofString "s"), (2048, Str.ofString "S"), (64, Str.ofString "x")],
   [(32, Str.ofString "r")], [(16, Str.ofString "w")], [(1032, Str.ofString "s"), (1024, Str.ofString "S"), (8, Str.ofString "x")],
   [(4, Str.ofString "r")], [(2, Str.ofString "w")], [(513, Str.ofString "t"), (512, Str.ofString "T"), (1, Str.ofString "x")]]
/-- a pair, a row, the table as the written part bears them -/
def pairAt (K : Frag) (v : Value) (d : Int × Str) : Bool := match v with
  | .ref a => (match K.lookup a with
    | some ⟨.type "tuple", none, .seq ⟨[.int b _, .str c _]⟩ _, ⟨[]⟩⟩ => b == d.1 && c == d.2
    | _ => false)
  | _ => false
def all2 {α β : Type} (f : α → β → Bool) : List α → List β → Bool
  | [], [] => true
  | x :: xs, y :: ys => f x y && all2 f xs ys
  | _, _ => false
def rowAt (K : Frag) (v : Value) (row : List (Int × Str)) : Bool := match v with
  | .ref a => (match K.lookup a with
    | some ⟨.type "tuple", none, .seq vs _, ⟨[]⟩⟩ => all2 (pairAt K) vs.toList row
    | _ => false)
  | _ => false
def tabAt (K : Frag) (a : Addr) (tab : List (List (Int × Str))) : Bool := match K.lookup a with
  | some ⟨.type "tuple", none, .seq vs _, ⟨[]⟩⟩ => all2 (rowAt K) vs.toList tab
  | _ => false
theorem tab_is (w : World) : tabAt (Mine.hd.heap_39 w.params) 68 fmTable = true := by kernel_rfl
theorem all2_get {α β : Type} {f : α → β → Bool} : ∀ {xs : List α} {ys : List β}, all2 f xs ys = true → xs.length = ys.length ∧ ∀ (i : Nat) x, xs[i]? = some x → ∃ y, ys[i]? = some y ∧ f x y = true
  | [], [], _ => ⟨rfl, fun i x h => by simp at h⟩
  | x :: xs, y :: ys, h => by
    simp only [all2, Bool.and_eq_true] at h
    obtain ⟨e, g⟩ := all2_get h.2
    refine ⟨by simp [e], fun i z hz => ?_⟩
    cases i with
    | zero => exact ⟨y, rfl, by simp at hz; exact hz ▸ h.1⟩
    | succ i => exact g i z (by simpa using hz)
  | [], _ :: _, h => by cases h
  | _ :: _, [], h => by cases h
theorem tab_get {K : Frag} {a : Addr} {tab : List (List (Int × Str))} (h : tabAt K a tab = true) : ∃ vs n, K.lookup a = some ⟨.type "tuple", none, .seq vs n, #[]⟩ ∧ all2 (rowAt K) vs.toList tab = true := by
  unfold tabAt at h
  split at h
  · rename_i vs n e; exact ⟨vs, n, e, h⟩
  · cases h
theorem row_get {K : Frag} {v : Value} {row : List (Int × Str)} (h : rowAt K v row = true) : ∃ a vs n, v = .ref a ∧ K.lookup a = some ⟨.type "tuple", none, .seq vs n, #[]⟩ ∧ all2 (pairAt K) vs.toList row = true := by
  unfold rowAt at h
  split at h
  · rename_i a
    split at h
    · rename_i vs n e; exact ⟨a, vs, n, rfl, e, h⟩
    · cases h
  · cases h
theorem pair_get {K : Frag} {v : Value} {d : Int × Str} (h : pairAt K v d = true) : ∃ a t u n, v = .ref a ∧ K.lookup a = some ⟨.type "tuple", none, .seq #[.int d.1 t, .str d.2 u] n, #[]⟩ := by
  unfold pairAt at h
  split at h
  · rename_i a
    split at h
    · rename_i b t c u n e
      simp only [Bool.and_eq_true, beq_iff_eq] at h
      obtain ⟨rfl, h2⟩ := h
      obtain rfl : c = d.2 := by simpa using h2
      exact ⟨a, t, u, n, rfl, e⟩
    · cases h
  · cases h

local macro_rules | `(tactic| walk_at "m_stop") => `(tactic| first
  | with_reducible show wpAny _ _ (exec (Stmt.For _ _ _ _ _) _) _ _ _
  | with_reducible show wpAny _ _ (pyIter _) _ _ _
  | with_reducible show wpAny _ _ (call (Value.type _) _ _) _ _ _
  | with_reducible show wpAny _ _ (call (Value.builtin _) _ _) _ _ _
  | with_reducible show wpAny _ _ (call (Value.ref _) _ _) _ _ _
  | with_reducible show ForEnd _ _ _ _ _ _)
local macro_rules | `(tactic| walk_at "ForPost") => `(tactic| (dsimp only [ForPost]))
local macro_rules | `(tactic| walk_at "m_steps") => `(tactic| repeat' (first | ((fail_if_success (walk_at "m_stop")); (first | (k_unfold; (try dsimp only)) | (k_end; wrow_close) | walk1 | (dsimp only; walk1) | (leave1; (try dsimp only))))))

theorem strsApp : ∀ {us vs : List Value} {xs ys : List Str}, StrsAre us xs → StrsAre vs ys → StrsAre (us ++ vs) (xs ++ ys)
  | _, _, _, _, .nil, h => h
  | _, _, _, _, .cons y t r, h => .cons y t (strsApp r h)
/-- a frame's map: the names that a loop stores are let go -/
def mapU (stored : List Str) (u base : Str → Option Value) : Str → Option Value := fun y => if stored.contains y then u y else base y
theorem mapU_of {m' base : Str → Option Value} {stored : List Str} (h : ∀ y, stored.contains y = false → m' y = base y) : ∃ u, m' = mapU stored u base := by
  refine ⟨m', funext fun y => ?_⟩
  unfold mapU
  cases e : stored.contains y with
  | true => simp
  | false => simp [h y e]
theorem mapOf_if {k : Str} {v : Value} {l : List (Str × Value)} : (fun y => if y = k then some v else mapOf l y) = mapOf ((k, v) :: l) := by
  funext y
  show _ = List.lookup y ((k, v) :: l)
  rw [List.lookup_cons]
  by_cases h : y = k
  · simp [h]
  · have : (y == k) = false := by simpa using h
    simp [h, this, mapOf]
theorem mapU_refl {stored : List Str} {base : Str → Option Value} : ∃ u, base = mapU stored u base := mapU_of fun _ _ => rfl
local macro_rules | `(tactic| walk_at "m_map") => `(tactic| (refine mapU_of ?_; intro z hz; (simp only [List.contains_cons, List.contains_nil, Bool.or_false, Bool.or_eq_false_iff, beq_eq_false_iff_ne, ne_eq] at hz); simp [mapU, hz]))

def fmMatch (i : Nat) (md b : Int) : Bool := if i = 0 then decide (Builtin.bitAnd md 61440 = b) else decide (Builtin.bitAnd md b = b)
def fmChar (i : Nat) (md : Int) (row : List (Int × Str)) : Str := match row.find? fun p => fmMatch i md p.1 with
  | some p => p.2
  | none => if i = 0 then Str.ofString "?" else Str.ofString "-"
def fmChars (md : Int) : Nat → List Str
  | 0 => []
  | i + 1 => fmChars md i ++ [fmChar i md (fmTable.getD i [])]

theorem fmChar_len (i : Nat) (md : Int) : (fmChar i md (fmTable.getD i [])).length = 1 := by
  have hall : ∀ row ∈ fmTable, ∀ p ∈ row, p.2.length = 1 := by decide
  unfold fmChar
  cases h : (fmTable.getD i []).find? fun p => fmMatch i md p.1 with
  | none => show (if i = 0 then Str.ofString "?" else Str.ofString "-").length = 1; split <;> rfl
  | some p =>
    show p.2.length = 1
    have hp := List.mem_of_find?_eq_some h
    by_cases hi : i < fmTable.length
    · have e : fmTable.getD i [] = fmTable[i] := by simp [hi]
      rw [e] at hp
      exact hall _ (List.getElem_mem hi) p hp
    · have e : fmTable.getD i [] = [] := by simp [Nat.le_of_not_lt hi]
      rw [e] at hp
      cases hp
theorem fmChars_len (md : Int) : ∀ i, ((fmChars md i).map (·.length)).sum = i
  | 0 => rfl
  | i + 1 => by rw [fmChars, List.map_append, List.sum_append, fmChars_len md i]; rw [List.map_cons, List.map_nil, fmChar_len]; rfl

section
variable {w : World} {mean : ExcName → Option Value} {mg mb : Str → Option Value} {dp un : Nat} {gd : Option (List Code)} {cn : Str} {cs : Scope} {a : Addr} {ccd : Value} {cl : List (Str × Addr)} {outer : List Env} {A₀ : Around} {base h₀ : Heap} {L : Addr} {m : Str → Option Value} {s : Shared}
    {Q E : Value → Shared → Prop} {hp : Addr} {n : Nat} {rest : List (Addr × Obj)}

theorem append_V {prog : Program} {A : Around} {vs : List Value} {v : Value} (F : Fr h₀ L s.heap m) (N : News h₀ L s.heap ((hp, listOf vs.toArray n) :: rest)) (hoff : ∀ p ∈ rest, p.1 ≠ hp) (hlen : vs.length < 1000)
    (h : ∀ h', Fr h₀ L h' m → News h₀ L h' ((hp, listOf (vs ++ [v]).toArray (n + 1)) :: rest) → Q .none { s with heap := h' }) : wpAny (model prog w) A (call (.builtin "list.append") [.ref hp, v]) Q E s := by
  refine append_K F N (.head hoff) (fun h' F' N' => h h' F' ?_) (by rw [List.size_toArray, sizeLine_eq]; omega)
  have e : (vs ++ [v]).toArray = vs.toArray.push v := by simp
  rw [e]; exact N'

theorem sifmt_t {md : Int} {t0 : Tok} (B : Below A₀ base outer h₀) (F : Fr h₀ L s.heap m) (X : (Mine.hd.heap_39 w.params).In h₀) (T : Top Mine.hd.view_39 (looseW Mine.hd.view_39 [Str.ofString "_filemode_table"]) mean mg mb h₀) (hk : cs.kind = .function)
    (N : News h₀ L s.heap rest) (hd : dp + 2 < recursionLimit)
    (hret : ∀ h' tk' t, Fr h₀ L h' m → News h₀ L h' rest → Q (.int (Builtin.bitAnd md 61440) t) { s with heap := h', toks := tk' }) :
    wpAny (model Challenge.rw_oh0024_01.row.prog w) (ktrTop dp un gd cn cs L a ccd cl outer) (call (.ref 35) [.int md t0]) Q E s := by
  revert X
  k_fill
  intro X
  refine wpAny_call ?_
  k_dflt ktr_enter
  rename Fr _ _ _ (fun y => List.lookup y _) => F0
  replace F0 := frNorm F0 (show _ = mapOf [(Str.ofString "mode", .int md t0)] from rfl)
  walk_at "m_steps"
  exact hret _ _ _ (by assumption) (by assumption)

theorem filemode_t {md : Int} {t0 : Tok} (B : Below A₀ base outer h₀) (F : Fr h₀ L s.heap m) (X : (Mine.hd.heap_39 w.params).In h₀) (T : Top Mine.hd.view_39 (looseW Mine.hd.view_39 [Str.ofString "_filemode_table"]) mean mg mb h₀) (hk : cs.kind = .function)
    (N : News h₀ L s.heap rest)  (hd : dp + 8 < recursionLimit) (hu : un + 70 < cLine)
    (hret : ∀ h' tk' t, Fr h₀ L h' m → News h₀ L h' rest → Q (.str (Txt.join Str.empty (fmChars md 10)) t) { s with heap := h', toks := tk' }) :
    wpAny (model Challenge.rw_oh0024_01.row.prog w) (ktrTop dp un gd cn cs L a ccd cl outer) (call (.ref 75) [.int md t0]) Q E s := by
  revert X
  k_fill
  intro X
  refine wpAny_call ?_
  k_dflt ktr_enter
  rename Fr _ _ _ (fun y => List.lookup y _) => F0
  replace F0 := frNorm F0 (show _ = mapOf [(Str.ofString "mode", .int md t0)] from rfl)
  walk_at "m_steps"
  refine wpAny_For ?_
  walk_at "m_steps"
  rename_i g' L' hA FG B' X' T' pl hB hpl hC F2 N2
  replace F2 := frNorm F2 mapOf_if
  obtain ⟨vs, n, hk68, hall⟩ := tab_get (tab_is w)
  obtain ⟨hlen, hrow⟩ := all2_get hall
  refine for_enum (vs := vs.toList) (n := n) rfl F2 N2 (X' _ _ hk68) rfl rfl (fun i m₁ nx => (∃ us k, nx = (pl, listOf us.toArray k) :: rest ∧ us.length = i ∧ StrsAre us (fmChars md i)) ∧ ∃ u, m₁ = mapU [Str.ofString "index", Str.ofString "table", Str.ofString "bit", Str.ofString "char"] u (mapOf [(Str.ofString "perm", .ref pl), (Str.ofString "mode", .int md t0)])) ?_ ?_ ?_
  · exact ⟨⟨[], 0, rfl, rfl, .nil⟩, mapU_refl⟩
  · rintro i T t v m₁ nx h tk own hv hT ⟨⟨us, k, rfl, rfl, hus⟩, u, rfl⟩ hoff F3 N3
    walk_at "m_steps"
    obtain ⟨row, hr1, hr2⟩ := hrow _ _ hv
    obtain ⟨ra, ws, nw, rfl, hkr, hallr⟩ := row_get hr2
    obtain ⟨hlenr, hpair⟩ := all2_get hallr
    refine wpAny_For ?_
    walk_at "m_steps"
    rename_i hA1 _ _ hA2 hA3 N4 F4
    have hrowE : fmTable.getD us.length [] = row := by simp [hr1]
    have hfin : ∀ (c : Str) (tc : Tok), fmChar us.length md row = c → StrsAre (us ++ [.str c tc]) (fmChars md (us.length + 1)) := by
      intro c tc hc
      rw [fmChars, hrowE, hc]
      exact strsApp hus (.cons c tc .nil)
    have hoffN : ∀ us' k', ∀ p ∈ (pl, listOf us' k') :: rest, ∀ q ∈ own, p.1 ≠ q.1 := by
      intro us' k' p hp q hq
      rcases List.mem_cons.mp hp with rfl | hp
      · exact hoff (pl, listOf us.toArray k) (.head _) q hq
      · exact hoff p (.tail _ hp) q hq
    have hus1000 : us.length < 1000 := by
      have := (List.getElem?_eq_some_iff.mp hr1).1
      have e : fmTable.length = 10 := rfl
      omega
    refine for_tup (vs := ws.toList) (n := nw) rfl F4 N4 (X' _ _ hkr) rfl rfl (fun j m₁ nx => nx = own ++ (pl, listOf us.toArray k) :: rest ∧ (∃ u', m₁ = mapU [Str.ofString "bit", Str.ofString "char"] u' (fun y =>
      if y = Str.ofString "table" then some (Value.ref ra) else if y = Str.ofString "index" then some (Value.int (us.length : Int) t) else mapU [Str.ofString "index", Str.ofString "table", Str.ofString "bit", Str.ofString "char"] u (mapOf [(Str.ofString "perm", Value.ref pl), (Str.ofString "mode", Value.int md t0)]) y)) ∧
      ∀ p ∈ row.take j, fmMatch us.length md p.1 = false) ?_ ?_ ?_
    · exact ⟨rfl, mapU_refl, by simp⟩
    · rintro j v m₂ nx2 h2 tk2 own2 hv2 ⟨rfl, ⟨u2, rfl⟩, hno⟩ hoff2 F5 N5
      obtain ⟨d, hd1, hd2⟩ := hpair _ _ hv2
      obtain ⟨pa, tb, tc, np, rfl, hkp⟩ := pair_get hd2
      have hTp : h2.IsTuple pa #[.int d.1 tb, .str d.2 tc] := ⟨_, F5.keep _ _ (X' _ _ hkp), rfl, np, rfl⟩
      have hne : ∀ p ∈ own2 ++ (own ++ rest), p.1 ≠ pl := by
        intro p hp e
        rcases List.mem_append.mp hp with hp | hp
        · exact hoff2 (pl, listOf us.toArray k) (List.mem_append.mpr (.inr (.head _))) p hp e.symm
        · rcases List.mem_append.mp hp with hp | hp
          · exact hoff (pl, listOf us.toArray k) (.head _) p hp e.symm
          · exact absurd (hpl p hp) (by rw [e]; exact Nat.lt_irrefl _)
      have hrest : ∀ h' us' k', News g' L' h' ((pl, listOf us' k') :: (own2 ++ (own ++ rest))) → News g' L' h' (own ++ (pl, listOf us' k') :: rest) := fun h' us' k' N => newsSub N (by
        intro p hp
        simp only [List.mem_append, List.mem_cons] at hp ⊢
        rcases hp with hp | hp | hp
        · exact .inr (.inr (.inl hp))
        · exact .inl hp
        · exact .inr (.inr (.inr hp)))
      have hin : ∀ h' , News g' L' h' (own2 ++ (own ++ (pl, listOf us.toArray k) :: rest)) → News g' L' h' ((pl, listOf us.toArray k) :: (own2 ++ (own ++ rest))) := fun h' N => newsSub N (by
        intro p hp
        simp only [List.mem_append, List.mem_cons] at hp ⊢
        rcases hp with hp | hp | hp | hp
        · exact .inr (.inr (.inl hp))
        · exact .inl hp
        · exact .inr (.inl hp)
        · exact .inr (.inr (.inr hp)))
      have hfound : fmMatch us.length md d.1 = true → fmChar us.length md row = d.2 := by
        intro hm
        have hj : row = row.take j ++ d :: row.drop (j + 1) := by
          have hlt := (List.getElem?_eq_some_iff.mp hd1).1
          rw [← (List.getElem?_eq_some_iff.mp hd1).2]
          simp
        unfold fmChar
        rw [hj, List.find?_append, List.find?_eq_none.mpr (fun p hp => by simp [hno p hp])]
        simp [hm]
      have hmore : fmMatch us.length md d.1 = false → ∀ p ∈ row.take (j + 1), fmMatch us.length md p.1 = false := by
        intro hm p hp
        rw [List.take_add_one, hd1] at hp
        rcases List.mem_append.mp hp with hp | hp
        · exact hno p hp
        · have : p = d := by simpa using hp
          rw [this, hm]
      walk_at "m_steps"
      · rename (us.length : Int) = 0 => h0
        refine sifmt_t (by assumption) (by assumption) (by assumption) (by assumption) rfl (by assumption) (by show dp + 1 + 2 < recursionLimit; omega) ?_
        intro h' tk' t' F' N'
        walk_at "m_steps"
        · rename Builtin.bitAnd _ _ = _ => hb
          refine append_V (by assumption) (hin _ (by assumption)) hne hus1000 ?_
          intro h' F' N'
          walk_at "m_steps"
          exact forEnd F' (hrest _ _ _ N') (hoffN _ _) ⟨⟨_, _, rfl, by simp, hfin _ _ (hfound (by unfold fmMatch; rw [if_pos (by omega)]; exact decide_eq_true hb))⟩, by walk_at "m_map"⟩
        · rename Builtin.bitAnd _ _ ≠ _ => hb
          exact forEnd F' N' hoff2 ⟨rfl, by walk_at "m_map", hmore (by unfold fmMatch; rw [if_pos (by omega)]; exact decide_eq_false hb)⟩
      · rename (us.length : Int) ≠ 0 => h0
        rename Builtin.bitAnd _ _ = _ => hb
        refine append_V (by assumption) (hin _ (by assumption)) hne hus1000 ?_
        intro h' F' N'
        walk_at "m_steps"
        exact forEnd F' (hrest _ _ _ N') (hoffN _ _) ⟨⟨_, _, rfl, by simp, hfin _ _ (hfound (by unfold fmMatch; rw [if_neg (by omega)]; exact decide_eq_true hb))⟩, by walk_at "m_map"⟩
      · rename (us.length : Int) ≠ 0 => h0
        rename Builtin.bitAnd _ _ ≠ _ => hb
        rename Fr _ _ _ (fun y => if y = _ then _ else _) => F'
        rename News _ _ _ _ => N'
        exact forEnd F' N' hoff2 ⟨rfl, by walk_at "m_map", hmore (by unfold fmMatch; rw [if_neg (by omega)]; exact decide_eq_false hb)⟩
    · rintro m₂ nx2 h2 tk2 ⟨rfl, ⟨u2, rfl⟩, hno⟩ F5 N5
      have hnone : ∀ p ∈ row, fmMatch us.length md p.1 = false := by
        rw [hlenr, List.take_length] at hno; exact hno
      have hdef : fmChar us.length md row = if us.length = 0 then Str.ofString "?" else Str.ofString "-" := by
        unfold fmChar
        rw [List.find?_eq_none.mpr (fun p hp => by simp [hnone p hp])]
      have hin : News g' L' h2 ((pl, listOf us.toArray k) :: (own ++ rest)) := newsSub N5 (by
        intro p hp
        simp only [List.mem_append, List.mem_cons] at hp ⊢
        rcases hp with hp | hp | hp
        · exact .inr (.inl hp)
        · exact .inl hp
        · exact .inr (.inr hp))
      have hout : ∀ h' us' k', News g' L' h' ((pl, listOf us' k') :: (own ++ rest)) → News g' L' h' (own ++ (pl, listOf us' k') :: rest) := fun h' us' k' N => newsSub N (by
        intro p hp
        simp only [List.mem_append, List.mem_cons] at hp ⊢
        rcases hp with hp | hp | hp
        · exact .inr (.inl hp)
        · exact .inl hp
        · exact .inr (.inr hp))
      have hne : ∀ p ∈ own ++ rest, p.1 ≠ pl := by
        intro p hp e
        rcases List.mem_append.mp hp with hp | hp
        · exact hoff (pl, listOf us.toArray k) (.head _) p hp e.symm
        · exact absurd (hpl p hp) (by rw [e]; exact Nat.lt_irrefl _)
      walk_at "m_steps"
      · rename (us.length : Int) = 0 => h0
        refine append_V (by assumption) hin hne hus1000 ?_
        intro h' F' N'
        walk_at "m_steps"
        exact forEnd F' (hout _ _ _ N') (hoffN _ _) ⟨⟨_, _, rfl, by simp, hfin _ _ (by rw [hdef, if_pos (by omega)])⟩, by walk_at "m_map"⟩
      · rename (us.length : Int) ≠ 0 => h0
        refine append_V (by assumption) hin hne hus1000 ?_
        intro h' F' N'
        walk_at "m_steps"
        exact forEnd F' (hout _ _ _ N') (hoffN _ _) ⟨⟨_, _, rfl, by simp, hfin _ _ (by rw [hdef, if_neg (by omega)])⟩, by walk_at "m_map"⟩
  · rintro m₁ nx h tk ⟨⟨us, k, rfl, hul, hus⟩, u, rfl⟩ F3 N3
    walk_at "m_steps"
    have h10 : vs.toList.length = 10 := hlen
    rw [h10] at hus
    refine join_list (items := us.toArray) ⟨_, (N3 _ (.head _)).1, rfl, k, rfl⟩ hus ?_ ?_
    · have hl := fmChars_len md 10
      have e : (Str.ofString "").length = 0 := rfl
      rw [e]
      omega
    · intro t' k'
      walk_at "m_steps"
      refine hret _ _ _ (by assumption) ?_
      rename News h₀ L _ _ => N9
      exact newsSub N9 fun p hp => .tail _ hp
end
end Mine

end
section -- P1
open PySem PySem.W PyProof.Rows
namespace Mine
theorem freshP1 : True := by
  w_top off
  trivial
/-- one sign turned into a text -/
def subst1 (c : Nat) (z : List Nat) (l : List Nat) : List Nat := l.flatMap fun d => if d = c then z else [d]
theorem subst1_free (c : Nat) (z : List Nat) : ∀ l : List Nat, c ∉ l → subst1 c z l = l
  | [], _ => rfl
  | k :: r, h => by
    have h1 : ¬ k = c := fun e => h (e ▸ List.mem_cons_self ..)
    have h2 : c ∉ r := fun m => h (List.mem_cons_of_mem _ m)
    show (if k = c then z else [k]) ++ subst1 c z r = k :: r
    rw [if_neg h1, subst1_free c z r h2]; rfl
theorem subst1_join (c : Nat) (z : Str) : ∀ parts : List Str, (∀ p ∈ parts, c ∉ p.cps.toList) → (Str.join z parts).cps.toList = subst1 c z.cps.toList (Str.join ⟨#[c]⟩ parts).cps.toList
  | [], _ => rfl
  | [p], h => (subst1_free c _ _ (h p (List.mem_singleton.mpr rfl))).symm
  | p :: q :: r, h => by
    have ih := subst1_join c z (q :: r) fun a ha => h a (List.mem_cons_of_mem _ ha)
    show (p ++ z ++ Str.join z (q :: r)).cps.toList = subst1 c z.cps.toList (p ++ ⟨#[c]⟩ ++ Str.join ⟨#[c]⟩ (q :: r)).cps.toList
    simp only [Str.cps_append, Array.toList_append]
    rw [ih]
    unfold subst1
    rw [List.flatMap_append, List.flatMap_append]
    show _ = subst1 c _ p.cps.toList ++ _ ++ _
    rw [subst1_free c _ _ (h p (List.mem_cons_self ..))]
    simp
theorem repl_list (x z : Str) (c : Nat) : (Txt.replace x ⟨#[c]⟩ z).cps.toList = subst1 c z.cps.toList x.cps.toList := by
  rw [StrLaws.replace_one, subst1_join c z _ (StrLaws.split_free x c), StrLaws.join_split]
theorem subst1_len (c : Nat) (z : List Nat) : ∀ l : List Nat, (subst1 c z l).length ≤ l.length * (z.length + 1)
  | [] => by simp [subst1]
  | k :: r => by
    have ih := subst1_len c z r
    show ((if k = c then z else [k]) ++ subst1 c z r).length ≤ _
    rw [List.length_append, List.length_cons, Nat.add_mul]
    have : (if k = c then z else [k]).length ≤ z.length + 1 := by split <;> simp
    omega
theorem str_len (x : Str) : x.length = x.cps.toList.length := by simp [Str.length]

def escOne (x : Str) (c : Nat) (z : Str) : Str := if c ∈ x.cps.toList then Txt.replace x ⟨#[c]⟩ z else x
theorem escOne_list (x z : Str) (c : Nat) : (escOne x c z).cps.toList = subst1 c z.cps.toList x.cps.toList := by
  unfold escOne
  split
  · exact repl_list x z c
  · rename_i h; exact (subst1_free c _ _ h).symm
def escStr (x : Str) : Str := escOne (escOne (escOne x 38 (Str.ofString "&amp;")) 60 (Str.ofString "&lt;")) 62 (Str.ofString "&gt;")
theorem escOne_len (x z : Str) (c : Nat) : (escOne x c z).length ≤ x.length * (z.length + 1) := by
  rw [str_len, str_len, escOne_list, str_len z]
  exact subst1_len ..
/-- what a sign costs -/
def signCost (c : Nat) : Nat := if c = 38 then 5 else if c = 60 then 4 else if c = 62 then 4 else 1
def textCost (l : List Nat) : Nat := (l.map signCost).sum
theorem textCost_append (a b : List Nat) : textCost (a ++ b) = textCost a + textCost b := by simp [textCost]
theorem subst1_append (c : Nat) (z a b : List Nat) : subst1 c z (a ++ b) = subst1 c z a ++ subst1 c z b := by simp [subst1]
theorem esc_cost (l : List Nat) : (subst1 62 (Str.ofString "&gt;").cps.toList (subst1 60 (Str.ofString "&lt;").cps.toList (subst1 38 (Str.ofString "&amp;").cps.toList l))).length = textCost l := by
  induction l with
  | nil => rfl
  | cons k r ih =>
    have e : ∀ c z, subst1 c z (k :: r) = (if k = c then z else [k]) ++ subst1 c z r := fun _ _ => rfl
    rw [e, subst1_append, subst1_append, List.length_append, ih]
    show _ = signCost k + textCost r
    congr 1
    unfold signCost
    by_cases h1 : k = 38
    · subst h1; decide
    · rw [if_neg h1, if_neg h1]
      by_cases h2 : k = 60
      · subst h2; decide
      · by_cases h3 : k = 62
        · subst h3; decide
        · simp [subst1, h2, h3]
theorem escStr_len (x : Str) : (escStr x).length = textCost x.cps.toList := by
  unfold escStr
  rw [str_len, escOne_list, escOne_list, escOne_list, esc_cost]
end Mine

end
section -- S5
open PySem PySem.W PyProof.Rows
set_option maxRecDepth 100000
set_option maxHeartbeats 4000000
namespace Mine
theorem freshS5 : True := by
  w_top off
  trivial
theorem gen_toks1 {M : Model} {A : Around} {α : Type} {t : Sem α} {Q : α → Shared → Prop} {E : Value → Shared → Prop} {h : Heap} {g d o} {X : Nat} (H : ∀ tk, 0 < tk → wpAny M A t Q E ⟨h, g, d, tk, o⟩) : wpAny M A t Q E ⟨h, g, d, X + 1, o⟩ := H _ (Nat.succ_pos _)

theorem esc_in {x y z : Str} {c : Nat} (hy : y = ⟨#[c]⟩) (h : (Builtin.Str.occurrences x y 0 x.length 1).isEmpty = false) : Txt.replace x y z = escOne x c z := by
  subst hy
  have e := StrLaws.found_one x c
  rw [h] at e
  unfold escOne
  rw [if_pos (by simpa using e.symm)]
theorem esc_out {x y : Str} (z : Str) {c : Nat} (hy : y = ⟨#[c]⟩) (h : (Builtin.Str.occurrences x y 0 x.length 1).isEmpty = true) : escOne x c z = x := by
  subst hy
  have e := StrLaws.found_one x c
  rw [h] at e
  unfold escOne
  rw [if_neg (by simpa using e.symm)]
theorem repl_call {prog : Program} {w : World} {A : Around} {E : Value → Shared → Prop} {s : Shared} {x y z : Str} {t : Tok} {u : Nat} {Q : Value → Shared → Prop} (c : Nat) (hy : y = ⟨#[c]⟩) (h : (Builtin.Str.occurrences x y 0 x.length 1).isEmpty = false) (hu : 0 < u) (hyz : (y == z) = false)
    (hx : x.length ≤ 100000) (hz : z.length ≤ 14) (hq : ∀ t' k, Q (.str (escOne x c z) t') { s with toks := k }) : wpAny (model prog w) A (call (.builtin "str.replace") [.str x t, .str y u, .str z (u + 1)]) Q E s := by
  refine SC.replaceW (Nat.ne_of_gt hu) (Nat.succ_ne_zero u) (Nat.ne_of_lt (Nat.lt_succ_self u)) hyz (by omega) hz ?_
  rw [esc_in hy h]
  exact hq

local macro_rules | `(tactic| walk_at "execs cons") => `(tactic| (refine gen_toks1 ?_; intro tk htk))
local macro_rules | `(tactic| walk_at "execs nil") => `(tactic| (refine gen_toks1 ?_; intro tk htk))
local macro_rules | `(tactic| walk_at "m_stop") => `(tactic| first
  | with_reducible show wpAny _ _ (call (Value.builtin _) _ _) _ _ _)
local macro_rules | `(tactic| walk_at "m_steps") => `(tactic| repeat' (first | ((fail_if_success (walk_at "m_stop")); (first | (k_unfold; (try dsimp only)) | (k_end; wrow_close) | walk1 | (dsimp only; walk1) | (leave1; (try dsimp only))))))
local macro_rules | `(tactic| walk_at "m_len") => `(tactic| first
  | omega
  | (refine Nat.le_trans (escOne_len _ _ _) ?_; refine Nat.le_trans (Nat.mul_le_mul_right _ (show _ ≤ 100 by omega)) ?_; decide)
  | (refine Nat.le_trans (escOne_len _ _ _) ?_; refine Nat.le_trans (Nat.mul_le_mul_right _ (show _ ≤ 600 from Nat.le_trans (escOne_len _ _ _) (Nat.le_trans (Nat.mul_le_mul_right _ (show _ ≤ 100 by omega)) (by decide)))) ?_; decide))
local macro_rules | `(tactic| walk_at "m_rep") => `(tactic| ((first | ((with_reducible show wpAny _ _ (call _ [_, Value.str (Str.ofString "&") _, _]) _ _ _); refine' repl_call 38 (show Str.ofString "&" = _ from rfl) ?ha ?hb (show (_ == Str.ofString "&amp;") = false from rfl) ?he (show (Str.ofString "&amp;").length ≤ 14 by decide) ?_) | ((with_reducible show wpAny _ _ (call _ [_, Value.str (Str.ofString "<") _, _]) _ _ _); refine' repl_call 60 (show Str.ofString "<" = _ from rfl) ?ha ?hb (show (_ == Str.ofString "&lt;") = false from rfl) ?he (show (Str.ofString "&lt;").length ≤ 14 by decide) ?_) | ((with_reducible show wpAny _ _ (call _ [_, Value.str (Str.ofString ">") _, _]) _ _ _); refine' repl_call 62 (show Str.ofString ">" = _ from rfl) ?ha ?hb (show (_ == Str.ofString "&gt;") = false from rfl) ?he (show (Str.ofString "&gt;").length ≤ 14 by decide) ?_)); (case ha => assumption); (case hb => assumption); (case he => walk_at "m_len"); (intro t' k'; walk_at "m_steps")))
local macro_rules | `(tactic| walk_at "m_esc") => `(tactic| (unfold escStr; (try (with_reducible rename (Builtin.Str.occurrences _ (Str.ofString "&") _ _ _).isEmpty = true => q1; rw [esc_out (Str.ofString "&amp;") (c := 38) rfl q1])); (try (with_reducible rename (Builtin.Str.occurrences _ (Str.ofString "<") _ _ _).isEmpty = true => q2; rw [esc_out (Str.ofString "&lt;") (c := 60) rfl q2])); (try (with_reducible rename (Builtin.Str.occurrences _ (Str.ofString ">") _ _ _).isEmpty = true => q3; rw [esc_out (Str.ofString "&gt;") (c := 62) rfl q3])); (try rfl)))
section
variable {w : World} {mean : ExcName → Option Value} {mg mb : Str → Option Value} {dp un : Nat} {gd : Option (List Code)} {cn : Str} {cs : Scope} {a : Addr} {ccd : Value} {cl : List (Str × Addr)} {outer : List Env} {A₀ : Around} {base h₀ : Heap} {L : Addr} {m : Str → Option Value} {s : Shared}
    {Q E : Value → Shared → Prop} {hp : Addr} {n : Nat} {rest : List (Addr × Obj)}

theorem esc_fin {x T : Str} {t : Tok} {h' : Heap} {tk' : Nat} (hret : ∀ h' tk' t, Fr h₀ L h' m → News h₀ L h' rest → Q (.str (escStr x) t) { s with heap := h', toks := tk' }) (F : Fr h₀ L h' m) (N : News h₀ L h' rest) (e : escStr x = T) : Q (.str T t) { s with heap := h', toks := tk' } := e ▸ hret _ _ _ F N

theorem escape_t {x : Str} {t0 : Tok} (B : Below A₀ base outer h₀) (F : Fr h₀ L s.heap m) (X : (Mine.hd.heap_39 w.params).In h₀) (T : Top Mine.hd.view_39 (looseW Mine.hd.view_39 [Str.ofString "_filemode_table"]) mean mg mb h₀) (hk : cs.kind = .function)
    (N : News h₀ L s.heap rest) (hd : dp + 3 < recursionLimit) (hu : un + 60 < cLine) (hx : x.length ≤ 100)
    (hret : ∀ h' tk' t, Fr h₀ L h' m → News h₀ L h' rest → Q (.str (escStr x) t) { s with heap := h', toks := tk' }) :
    wpAny (model Challenge.rw_oh0024_01.row.prog w) (ktrTop dp un gd cn cs L a ccd cl outer) (call (.ref 28) [.str x t0]) Q E s := by
  revert X
  k_fill
  intro X
  refine wpAny_call ?_
  k_dflt ktr_enter
  rename Fr _ _ _ (fun y => List.lookup y _) => F0
  replace F0 := frNorm F0 (show _ = mapOf [(Str.ofString "text", .str x t0)] from rfl)
  refine gen_toks1 (X := s.toks) ?_
  intro tk htk
  walk_at "m_steps"
  all_goals (repeat' (first | walk_at "m_rep"))
  all_goals (refine esc_fin hret (by assumption) (by assumption) ?_; walk_at "m_esc")
end
end Mine

end
section -- S6
open PySem PySem.W PyProof.Rows
set_option maxRecDepth 100000
set_option maxHeartbeats 4000000
namespace Mine
theorem freshS6 : True := by
  w_top off
  trivial
def listStr (r : Int) : Str := Str.ofString "-r" ++ Txt.item (Str.ofString "-w") ((r.fdiv 2).fmod 2) ++ Txt.item (Str.ofString "-xSs") (r.fmod 2 + r.fdiv 4 * 2) ++ Str.ofString "r--r--"
section
variable {w : World} {mean : ExcName → Option Value} {mg mb : Str → Option Value} {dp un : Nat} {gd : Option (List Code)} {cn : Str} {cs : Scope} {a : Addr} {ccd : Value} {cl : List (Str × Addr)} {outer : List Env} {A₀ : Around} {base h₀ : Heap} {L : Addr} {m : Str → Option Value} {s : Shared}
    {Q E : Value → Shared → Prop} {hp : Addr} {n : Nat} {rest : List (Addr × Obj)}

theorem listing_t {r : Int} {t0 : Tok} (B : Below A₀ base outer h₀) (F : Fr h₀ L s.heap m) (X : (Mine.hd.heap_39 w.params).In h₀) (T : Top Mine.hd.view_39 (looseW Mine.hd.view_39 [Str.ofString "_filemode_table"]) mean mg mb h₀) (hk : cs.kind = .function)
    (N : News h₀ L s.heap rest) (hd : dp + 3 < recursionLimit) (hr0 : 0 ≤ r) (hr1 : r < 8)
    (hret : ∀ h' tk' t, Fr h₀ L h' m → News h₀ L h' rest → Q (.str (listStr r) t) { s with heap := h', toks := tk' }) :
    wpAny (model Challenge.rw_oh0024_01.row.prog w) (ktrTop dp un gd cn cs L a ccd cl outer) (call (.ref 125) [.int r t0]) Q E s := by
  revert X
  k_fill
  intro X
  refine wpAny_call ?_
  k_dflt ktr_enter
  rename Fr _ _ _ (fun y => List.lookup y _) => F0
  replace F0 := frNorm F0 (show _ = mapOf [(Str.ofString "rights", .int r t0)] from rfl)
  k_steps
  exact hret _ _ _ (by assumption) (by assumption)
end
end Mine

end
section -- C1
open PySem PySem.W PyProof.Rows
set_option maxRecDepth 100000
namespace Mine
theorem freshC1 : True := by
  w_top off
  trivial
section
variable {prog : Program} {w : World} {A : Around} {E : Value → Shared → Prop} {s : Shared} {h₀ : Heap} {L : Addr} {m : Str → Option Value} {env : Env}

theorem compEnd_mono {s₁ : Shared} {I : Addr} {oI : Obj} {C : Addr} {oC : Obj} {D : Addr} {oD : Obj} {S : List (Addr × Obj) → Prop} {R R' : Value → List (Addr × Obj) → Prop} {y : Value} {s₂ : Shared} (h : LCg.CompEnd h₀ L m s₁ I oI C oC D oD S R y s₂)
    (hR : ∀ y nx, R y nx → R' y nx) : LCg.CompEnd h₀ L m s₁ I oI C oC D oD S R' y s₂ := by
  obtain ⟨h', tk, nx, e, F, N, off, hS, r⟩ := h
  exact ⟨h', tk, nx, e, F, N, off, hS, hR _ _ r⟩

/-- a comprehension by an invariant -/
theorem compRest_of {elt : Expr} {x : Str} {scope : Scope} {cl : List (Str × Addr)} {S : List (Addr × Obj) → Prop} {P : Nat → Value → Prop} {Fin : List Value → List (Addr × Obj) → Prop} (n : Nat) (J : Nat → List Value → List (Addr × Obj) → Prop)
    (fin : ∀ ys nx, J n ys nx → Fin ys nx)
    (turn : ∀ i v ys nx I oI C oC D m₂ h tk (E' : Value → Shared → Prop), i < n → P i v → J i ys nx → LCg.NsObj oC m₂ → m₂ x = some v → Fr h₀ L h m → News h₀ L h ((I, oI) :: (C, oC) :: (D, LCg.lst ys) :: nx) → LCg.Off3 I C D nx → ((@Ne Nat I C) ∧ (@Ne Nat I D) ∧ (@Ne Nat C D)) →
      wpAny (model prog w) A (eval elt (compEnvC scope cl C env)) (LCg.CompEnd h₀ L m { s with heap := h, toks := tk } I oI C oC D (LCg.lst ys) S (fun y nx' => J (i + 1) (ys ++ [y]) nx')) E' { s with heap := h, toks := tk }) :
    ∀ k i ys nx, i + k = n → J i ys nx → LCg.CompRest prog w A h₀ L m env elt x scope cl s S P Fin k i ys nx
  | 0, i, ys, nx, e, hJ => LCg.CompRest.zero (fin ys nx (e ▸ hJ))
  | k + 1, i, ys, nx, e, hJ => LCg.CompRest.succ fun v I oI C oC D m₂ h tk E' hP hC hx F N off ne =>
      wpAny_mono (turn i v ys nx I oI C oC D m₂ h tk E' (by omega) hP hJ hC hx F N off ne) (fun y s₂ h₂ => compEnd_mono h₂ fun y' nx' hJ' => compRest_of n J fin turn k (i + 1) (ys ++ [y']) nx' (by omega) hJ') fun _ _ e => e

theorem compSrc_list {elt : Expr} {x : Str} {scope : Scope} {cl : List (Str × Addr)} {l : Addr} {vs : List Value} {n : Nat} {news : List (Addr × Obj)} {Q : Value → Shared → Prop}
    (hh : A.handled = none) (F : Fr h₀ L s.heap m) (N : News h₀ L s.heap news) (hm : (l, listOf vs.toArray n) ∈ news) (hsz : vs.length ≤ sizeLine)
    (J : Nat → List Value → List (Addr × Obj) → Prop) (h0 : J 0 [] news)
    (turn : ∀ (g : Heap) i v ys nx I oI C oC D m₂ h tk (E' : Value → Shared → Prop), vs[i]? = some v → J i ys nx → LCg.NsObj oC m₂ → m₂ x = some v → Fr h₀ L h m → News h₀ L h ((I, oI) :: (C, oC) :: (D, LCg.lst ys) :: nx) → LCg.Off3 I C D nx → ((@Ne Nat I C) ∧ (@Ne Nat I D) ∧ (@Ne Nat C D)) →
      wpAny (model prog w) A (eval elt (compEnvC scope cl C env)) (LCg.CompEnd h₀ L m { s with heap := h, toks := tk } I oI C oC D (LCg.lst ys) (LCg.SrcAt h₀ l vs.toArray) (fun y nx' => J (i + 1) (ys ++ [y]) nx')) E' { s with heap := h, toks := tk })
    (fin : ∀ ys nx D h tk, J vs.length ys nx → Fr h₀ L h m → News h₀ L h ((D, LCg.lst ys) :: nx) → (∀ p ∈ nx, p.1 ≠ D) → Q (.ref D) { s with heap := h, toks := tk }) :
    LCg.CompSrc prog w A h₀ L m env elt x scope cl (fun s₂ => LCg.FinE h₀ L m s₂ Q) (.ref l) s := by
  refine LCg.CompSrc.ledger hh F N hm (by simpa using hsz) fun g => ?_
  refine compRest_of vs.toArray.size J ?_ ?_ _ _ _ _ (Nat.zero_add _) h0
  · intro ys nx hJ D h tk F' N' off
    refine fin ys nx D h tk (by simpa using hJ) F' N' ?_
    have go : ∀ l : List (Addr × Obj), LCg.Off1 D l → ∀ p ∈ l, p.1 ≠ D := by
      intro l
      induction l with
      | nil => intro _ p hp; exact nomatch hp
      | cons q r ih =>
        intro o p hp
        rcases List.mem_cons.mp hp with rfl | hp
        · exact o.1
        · exact ih o.2 p hp
    exact go nx off
  · intro i v ys nx I oI C oC D m₂ h tk E' hi hP hJ hC hx F' N' off ne
    exact turn g i v ys nx I oI C oC D m₂ h tk E' (by simpa using hP) hJ hC hx F' N' off ne
end
end Mine

end
section -- R1
open PySem PySem.W PyProof.Rows
set_option maxRecDepth 100000
namespace Mine
theorem freshR1 : True := by
  w_top off
  trivial
def itemOk (it : Item) : Prop := PyData.strOk it.2.1 = true ∧ PyData.strOk it.2.2.1 = true
def itemDat (it : Item) : Dat := .tuple [.int it.1, .str it.2.1, .str it.2.2.1, .int it.2.2.2]
theorem itemDat_in {news : List (Addr × Obj)} {v : Value} {it : Item} (h : ItemIn news v it) : DatIn news v (itemDat it) := by
  obtain ⟨a, t1, t2, t3, t4, n, rfl, hm⟩ := h
  exact .tuple (vs := [.int it.1 t1, .str it.2.1 t2, .str it.2.2.1 t3, .int it.2.2.2 t4]) hm (.cons (.int _ _) (.cons (.str _ _) (.cons (.str _ _) (.cons (.int _ _) .nil))))
theorem itemDats_in {news : List (Addr × Obj)} : ∀ {xs : List VI}, (∀ y ∈ xs, ItemIn news y.1 y.2) → DatAll news (xs.map (·.1)) (xs.map fun y => itemDat y.2)
  | [], _ => .nil
  | y :: ys, h => .cons (itemDat_in (h y (.head _))) (itemDats_in fun z hz => h z (.tail _ hz))

section
variable {prog : Program} {w : World} {A : Around} {E : Value → Shared → Prop} {s : Shared} {h₀ : Heap} {L : Addr} {m : Str → Option Value} {news : List (Addr × Obj)}
theorem ne_nil {hp l : Addr} {xs : List VI} {n k : Nat} {Q : Value → Shared → Prop} (N : News h₀ L s.heap news) (hm : (hp, listOf (xs.map (·.1)).toArray n) ∈ news) (hl : (l, listOf #[] k) ∈ news) (hit : ∀ y ∈ xs, ItemIn news y.1 y.2) (hok : ∀ y ∈ xs, itemOk y.2)
    (hu : A.units + 64 < cLine) (h : Q (.bool (!xs.isEmpty)) s) : wpAny (model prog w) A (compareOp .NotEq (.ref hp) (.ref l)) Q E s := by
  refine kqd_ne N hm rfl rfl (itemDats_in hit) (fun _ h => h) hl rfl (ys := []) rfl (DatAll.nil (news := news)) (fun _ h => h) ?_ (by simp) hu ?_
  · intro d hd
    obtain ⟨y, hy, rfl⟩ := List.mem_map.mp hd
    have := hok y hy
    simp [itemDat, kqdOk, this.1, this.2]
  · have e : decide ((xs.map fun y => itemDat y.2) = []) = xs.isEmpty := by cases xs <;> simp
    rw [e]; exact h

theorem strs_reads {h : Heap} : ∀ {vs : List Value} {ss : List Str}, StrsAre vs ss → ReadsAll h vs (ss.map PyData.str) []
  | _, _, .nil => ReadsAll.nil
  | _, _, .cons y t r => ReadsAll.cons (as := []) (Reads.str y t) (strs_reads r)
theorem notIn_strs {D : Addr} {vs : List Value} {ss : List Str} {n : Nat} {x : Str} {t : Tok} {Q : Value → Shared → Prop} (N : News h₀ L s.heap news) (hm : (D, listOf vs.toArray n) ∈ news) (hs : StrsAre vs ss) (hok : ∀ y ∈ ss, PyData.strOk y = true) (hx : PyData.strOk x = true)
    (hu : A.units + 65 < cLine) (h : Q (.bool (!decide (x ∈ ss))) s) : wpAny (model prog w) A (compareOp .NotIn (.str x t) (.ref D)) Q E s := by
  have hlay : ∀ l : List Str, (∀ y ∈ l, PyData.strOk y = true) → PyData.canLayAll0 (l.map PyData.str) = true ∧ PyData.depthAll (l.map PyData.str) = 0 := by
    intro l
    induction l with
    | nil => intro _; exact ⟨rfl, rfl⟩
    | cons y r ih =>
      intro h
      obtain ⟨a, b⟩ := ih fun z hz => h z (.tail _ hz)
      have := h y (.head _)
      exact ⟨by simp [PyData.canLayAll0, PyData.canLay0, a, this], by simp [PyData.depthAll, PyData.depth, b]⟩
  obtain ⟨ha, hb⟩ := hlay ss hok
  refine notIn_list_dataH (xs := ss.map PyData.str) (d := .str x) (as := [D]) (bs := []) (reads_list_at (N _ hm).1 rfl rfl (by simpa using strs_reads hs)) (Reads.str x t) ?_ ?_ hu ?_ ?_
  · simp [SeqAt.shaped, PyData.canLay0, PyData.depth, ha, hb]
  · simp [SeqAt.shaped, PyData.canLay0, PyData.depth, hx]
  · intro y hy
    obtain ⟨z, hz, rfl⟩ := List.mem_map.mp hy
    rfl
  · have key : ∀ l : List Str, 0 ≤ PySem.Spec.countIn (.str x) (l.map PyData.str) ∧ (PySem.Spec.countIn (.str x) (l.map PyData.str) ≠ 0 ↔ x ∈ l) := by
      intro l
      induction l with
      | nil => exact ⟨Int.le_refl _, by simp [PySem.Spec.countIn]⟩
      | cons y r ih =>
        have e : PySem.Spec.countIn (.str x) ((y :: r).map PyData.str) = (if PySem.Spec.same (.str y) (.str x) then 1 else 0) + PySem.Spec.countIn (.str x) (r.map PyData.str) := rfl
        have e2 : PySem.Spec.same (.str y) (.str x) = decide (y = x) := by
          simp only [PySem.Spec.same]
          by_cases h : y = x <;> simp [h]
        rw [e, e2]
        by_cases hyx : y = x
        · subst hyx
          refine ⟨by simp; omega, ?_⟩
          simp
          omega
        · have hxy : ¬ x = y := fun h => hyx h.symm
          simp [hyx, hxy, ih.1, ih.2]
    have e : decide (PySem.Spec.countIn (.str x) (ss.map PyData.str) ≠ 0) = decide (x ∈ ss) := decide_eq_decide.mpr (key ss).2
    rw [e]; exact h
/-- a key sought in a dict of the ledger's -/
theorem notIn_dict {d : Addr} {o : Obj} {kvs : List (Int × Value)} {k : Int} {t : Tok} {Q : Value → Shared → Prop} (N : News h₀ L s.heap news) (hp : (d, o) ∈ news) (hd : o.IsDictOf (intKind prog w) kvs) (lo : (d == sysModules) = false)
    (h : Q (.bool (!(valueAt kvs k).isSome)) { s with toks := s.toks + 1 }) : wpAny (model prog w) A (compareOp .NotIn (.int k t) (.ref d)) Q E s := by
  have hI : wpAny (model prog w) A (compareOp .In (.int k t) (.ref d)) (fun v s' => v = .bool (valueAt kvs k).isSome ∧ s' = { s with toks := s.toks + 1 }) E s := kda_in (knd := intKind prog w) N hp hd lo (intKind_is _ _ _ _) _ rfl ⟨rfl, rfl⟩
  have hI' : wpAny (model prog w) A (contains (.ref d) (.int k t) >>= fun b => pure (Value.bool b)) (fun v s' => v = .bool (valueAt kvs k).isSome ∧ s' = { s with toks := s.toks + 1 }) E s := hI
  show wpAny (model prog w) A (contains (.ref d) (.int k t) >>= fun b => pure (Value.bool (!b))) Q E s
  have e : (contains (.ref d) (.int k t) >>= fun b => pure (Value.bool (!b))) = ((contains (.ref d) (.int k t) >>= fun b => pure (Value.bool b)) >>= fun v => match v with | .bool b => pure (Value.bool (!b)) | v => pure v) := by
    rw [bind_assoc]
    congr 1
  rw [e]
  refine wpAny_bind (wpAny_mono hI' (fun v s' hv => ?_) fun _ _ x => x)
  obtain ⟨rfl, rfl⟩ := hv
  exact wpAny_pure h
end
end Mine

end
section -- P2
open PySem PySem.W PyProof.Rows
namespace Mine
theorem freshP2 : True := by
  w_top off
  trivial
/-- filemode's text of a mode -/
def fmStr (md : Int) : Str := Txt.join Str.empty (fmChars md 10)
abbrev Offer := Str × Int
/-- the mode behind an offer, the bundle with one offer more -/
def aft (it : Item) (o : Offer) : Int := Builtin.bitOr it.2.2.2 (o.2.fmod 4 * 64 + o.2.fdiv 4 * 2048)
def nextItem (it : Item) (o : Offer) : Item := (((escStr (it.2.2.1 ++ o.1)).length : Int), fmStr (aft it o), it.2.2.1 ++ o.1, aft it o)
def pushAll (x : Item) (os : List Offer) (its : List Item) : List Item := os.foldl (fun l o => hpush itemLt (nextItem x o) l) its
/-- one turn of the run, as data -/
def runStep (O : List Offer) (init : List Item) (last : Item) (D : List (Int × Str)) : List Item × List (Int × Str) :=
  let r := hpop itemLt init last
  if r.1.2.1 ∈ D.map (·.2) then (r.2, D) else (pushAll r.1 O r.2, D ++ [(r.1.1, r.1.2.1)])

theorem sdGo_map {α β : Type} (g : α → β) (lt : α → α → Bool) (lt' : β → β → Bool) (hlt : ∀ a b, lt a b = lt' (g a) (g b)) (x : α) : ∀ (f : Nat) (xs : List α) (p : Nat), (sdGo lt x f xs p).map g = sdGo lt' (g x) f (xs.map g) p
  | 0, xs, p => by simp [sdGo, List.map_set]
  | f + 1, xs, p => by
    rw [sdGo, sdGo]
    by_cases hp : p = 0
    · rw [if_pos hp, if_pos hp]; simp [List.map_set]
    · rw [if_neg hp, if_neg hp, List.getElem?_map]
      cases h : xs[(p - 1) / 2]? with
      | none => simp [List.map_set]
      | some q =>
        show (if lt x q = true then _ else _ : List α).map g = if lt' (g x) (g q) = true then _ else _
        rw [← hlt]
        split
        · rw [sdGo_map g lt lt' hlt x f, List.map_set]
        · simp [List.map_set]
theorem suGo_map {α β : Type} (g : α → β) (lt : α → α → Bool) (lt' : β → β → Bool) (hlt : ∀ a b, lt a b = lt' (g a) (g b)) : ∀ (f : Nat) (xs : List α) (p : Nat), suGo lt' f (xs.map g) p = ((suGo lt f xs p).1.map g, (suGo lt f xs p).2)
  | 0, xs, p => rfl
  | f + 1, xs, p => by
    rw [suGo, suGo, List.getElem?_map, List.getElem?_map]
    cases h1 : xs[2 * p + 1]? with
    | none => rfl
    | some y =>
      cases h2 : xs[2 * p + 2]? with
      | none =>
        show suGo lt' f ((xs.map g).set p (g y)) _ = _
        rw [← List.map_set, suGo_map g lt lt' hlt f]
      | some z =>
        show (if lt' (g y) (g z) = true then suGo lt' f ((xs.map g).set p (g y)) _ else suGo lt' f ((xs.map g).set p (g z)) _) = _
        rw [← hlt, ← List.map_set, ← List.map_set, suGo_map g lt lt' hlt f, suGo_map g lt lt' hlt f]
        split <;> simp_all
theorem hpush_map {α β : Type} (g : α → β) (lt : α → α → Bool) (lt' : β → β → Bool) (hlt : ∀ a b, lt a b = lt' (g a) (g b)) (x : α) (xs : List α) : (hpush lt x xs).map g = hpush lt' (g x) (xs.map g) := by
  unfold hpush
  rw [sdGo_map g lt lt' hlt]
  simp
theorem hpop_map {α β : Type} (g : α → β) (lt : α → α → Bool) (lt' : β → β → Bool) (hlt : ∀ a b, lt a b = lt' (g a) (g b)) (x : α) (xs : List α) : hpop lt' (xs.map g) (g x) = (g (hpop lt xs x).1, (hpop lt xs x).2.map g) := by
  cases xs with
  | nil => rfl
  | cons y ys =>
    show (g y, _) = (g y, _)
    congr 1
    dsimp only
    have e : g x :: ys.map g = (x :: ys).map g := rfl
    rw [List.length_map]
    show (let r := suGo lt' (ys.length + 1) (g x :: ys.map g) 0; sdGo lt' (g x) r.2 (r.1.set r.2 (g x)) r.2) = _
    rw [e, suGo_map g lt lt' hlt]
    dsimp only [hpop]
    rw [sdGo_map g lt lt' hlt, List.map_set]
theorem hpush_length {α : Type} (lt : α → α → Bool) (x : α) (xs : List α) : (hpush lt x xs).length = xs.length + 1 := by
  have go : ∀ (f : Nat) (ys : List α) (p : Nat), (sdGo lt x f ys p).length = ys.length := by
    intro f
    induction f with
    | zero => intro ys p; simp [sdGo]
    | succ f ih =>
      intro ys p
      rw [sdGo]
      split
      · simp
      · split
        · split
          · rw [ih]; simp
          · simp
        · simp
  rw [hpush, go]; simp
theorem sdGo_mem {α : Type} (lt : α → α → Bool) (x : α) : ∀ (f : Nat) (ys : List α) (p : Nat) (z : α), z ∈ sdGo lt x f ys p → z = x ∨ z ∈ ys
  | 0, ys, p, z, h => by
    rcases List.mem_or_eq_of_mem_set h with h | h
    · exact .inr h
    · exact .inl h
  | f + 1, ys, p, z, h => by
    have hset : ∀ {w : α}, z ∈ ys.set p w → z = w ∨ z ∈ ys := fun h => (List.mem_or_eq_of_mem_set h).symm
    rw [sdGo] at h
    split at h
    · exact hset h
    · split at h
      · rename_i q hq
        split at h
        · rcases sdGo_mem lt x f _ _ z h with h | h
          · exact .inl h
          · rcases hset h with h | h
            · exact .inr (h ▸ List.mem_of_getElem? hq)
            · exact .inr h
        · exact hset h
      · exact hset h
theorem suGo_mem {α : Type} (lt : α → α → Bool) : ∀ (f : Nat) (ys : List α) (p : Nat) (z : α), z ∈ (suGo lt f ys p).1 → z ∈ ys
  | 0, ys, p, z, h => h
  | f + 1, ys, p, z, h => by
    have hset : ∀ {w : α}, w ∈ ys → z ∈ ys.set p w → z ∈ ys := fun hw h => (List.mem_or_eq_of_mem_set h).elim id fun e => e ▸ hw
    rw [suGo] at h
    split at h
    · rename_i y z' hy hz
      split at h
      · exact hset (List.mem_of_getElem? hy) (suGo_mem lt f _ _ z h)
      · exact hset (List.mem_of_getElem? hz) (suGo_mem lt f _ _ z h)
    · rename_i y hy _
      exact hset (List.mem_of_getElem? hy) (suGo_mem lt f _ _ z h)
    · exact h
theorem sdGo_length {α : Type} (lt : α → α → Bool) (x : α) : ∀ (f : Nat) (ys : List α) (p : Nat), (sdGo lt x f ys p).length = ys.length
  | 0, ys, p => by simp [sdGo]
  | f + 1, ys, p => by
    rw [sdGo]
    split
    · simp
    · split
      · split
        · rw [sdGo_length lt x f]; simp
        · simp
      · simp
theorem suGo_length {α : Type} (lt : α → α → Bool) : ∀ (f : Nat) (ys : List α) (p : Nat), (suGo lt f ys p).1.length = ys.length
  | 0, ys, p => rfl
  | f + 1, ys, p => by
    rw [suGo]
    split
    · split <;> rw [suGo_length lt f] <;> simp
    · rw [suGo_length lt f]; simp
    · rfl
theorem hpop_fst_mem {α : Type} (lt : α → α → Bool) (ys : List α) (y : α) : (hpop lt ys y).1 ∈ ys ++ [y] := by
  cases ys with
  | nil => exact .head _
  | cons z r => exact .head _
theorem hpop_snd_mem {α : Type} (lt : α → α → Bool) (ys : List α) (y z : α) (h : z ∈ (hpop lt ys y).2) : z ∈ ys ++ [y] := by
  cases ys with
  | nil => exact nomatch h
  | cons q r =>
    have hy : z = y → z ∈ q :: r ++ [y] := fun e => e ▸ List.mem_append.mpr (.inr (.head _))
    rcases sdGo_mem lt y _ _ _ z h with h | h
    · exact hy h
    · rcases List.mem_or_eq_of_mem_set h with h | h
      · have := suGo_mem lt _ _ _ z h
        rcases List.mem_cons.mp this with h | h
        · exact hy h
        · exact List.mem_append.mpr (.inl (.tail _ h))
      · exact hy h
theorem hpop_length {α : Type} (lt : α → α → Bool) (ys : List α) (y : α) : (hpop lt ys y).2.length = ys.length := by
  cases ys with
  | nil => rfl
  | cons q r =>
    show (sdGo lt y _ _ _).length = _
    rw [sdGo_length, List.length_set, suGo_length]; rfl
theorem hpush_mem {α : Type} (lt : α → α → Bool) (x : α) (xs : List α) (z : α) (h : z ∈ hpush lt x xs) : z = x ∨ z ∈ xs := by
  rcases sdGo_mem lt x _ _ _ z h with h | h
  · exact .inl h
  · rcases List.mem_append.mp h with h | h
    · exact .inr h
    · exact .inl (List.mem_singleton.mp h)
end Mine

end
section -- S7
open PySem PySem.W PyProof.Rows
set_option maxRecDepth 100000
set_option maxHeartbeats 4000000
namespace Mine
theorem freshS7 : True := by
  w_top off
  trivial
/-- what the run's plain law must say -/
structure RunInv (O : List Offer) (Inv : List Item → List (Int × Str) → Prop) (μ : List Item → List (Int × Str) → Nat) : Prop where
  start : Inv [(0, fmStr 33060, Str.empty, 33060)] []
  ok : ∀ its D, Inv its D → its.length ≤ 500 ∧ D.length ≤ 8 ∧ (∀ it ∈ its, itemOk it ∧ it.2.2.1.length ≤ 50) ∧ (∀ d ∈ D, PyData.strOk d.2 = true)
  step : ∀ init last D, Inv (init ++ [last]) D → Inv (runStep O init last D).1 (runStep O init last D).2 ∧ μ (runStep O init last D).1 (runStep O init last D).2 < μ (init ++ [last]) D
/-- a row written down; an offer -/
def RowIn (news : List (Addr × Obj)) (v : Value) (d : Int × Str) : Prop := ∃ a t1 t2 n, v = .ref a ∧ (a, ({ cls := .type "tuple", data := .seq #[.int d.1 t1, .str d.2 t2] n } : Obj)) ∈ news
def OfferIn (news : List (Addr × Obj)) (v : Value) (o : Offer) : Prop := ∃ a t1 t2 n, v = .ref a ∧ (a, ({ cls := .type "tuple", data := .seq #[.str o.1 t1, .int o.2 t2] n } : Obj)) ∈ news
theorem RowIn.mono {news news' : List (Addr × Obj)} {v : Value} {d : Int × Str} (h : RowIn news v d) (hs : ∀ p ∈ news, p ∈ news') : RowIn news' v d := by
  obtain ⟨a, t1, t2, n, e, hm⟩ := h
  exact ⟨a, t1, t2, n, e, hs _ hm⟩
theorem mapOf_if2 {k k' : Str} {v v' : Value} {l : List (Str × Value)} : (fun y => if y = k then some v else if y = k' then some v' else mapOf l y) = mapOf ((k, v) :: (k', v') :: l) := by
  have e := mapOf_if (k := k') (v := v') (l := l)
  rw [← mapOf_if (k := k) (l := (k', v') :: l)]
  funext y
  rw [← congrFun e y]
theorem allLt_mem {d : Nat} : ∀ {l : List (Addr × Obj)}, AllLt d l → ∀ p ∈ l, p.1 < d
  | [], _, _, h => nomatch h
  | _ :: _, x, p, h => by
    rcases List.mem_cons.mp h with rfl | h
    · exact x.1
    · exact allLt_mem x.2 p h
theorem valueAt_app {kvs : List (Int × Value)} {k k' : Int} {v : Value} : valueAt (kvs ++ [(k, v)]) k' = match valueAt kvs k' with | some z => some z | none => if k = k' then some v else none := by
  unfold valueAt
  rw [List.find?_append]
  cases h : kvs.find? (fun kv => decide (kv.1 = k')) with
  | some z => rfl
  | none => by_cases hk : k = k' <;> simp [hk]
theorem textCost_le (l : List Nat) : textCost l ≤ 5 * l.length := by
  induction l with
  | nil => simp [textCost]
  | cons c r ih =>
    have e : textCost (c :: r) = signCost c + textCost r := by simp [textCost]
    have : signCost c ≤ 5 := by unfold signCost; split <;> (try split) <;> (try split) <;> omega
    rw [e, List.length_cons]; omega
abbrev VR := Value × (Int × Str)
/-- the ledger of the run -/
structure RunLed (prog : Program) (w : World) (hp dn sh : Addr) (rest tl : List (Addr × Obj)) (xs : List VI) (ds : List VR) (od : Obj) (kvs : List (Int × Value)) : Prop where
  off : ∀ p ∈ tl, p.1 ≠ hp ∧ p.1 ≠ dn ∧ p.1 ≠ sh
  sub : ∀ p ∈ rest, p ∈ tl
  its : ∀ y ∈ xs, ItemIn tl y.1 y.2
  rows : ∀ d ∈ ds, RowIn tl d.1 d.2
  dict : od.IsDictOf (intKind prog w) kvs
  shown : ∀ k v, valueAt kvs k = some v → ∃ t, v = .str (fmStr k) t
abbrev ledR (hp dn sh : Addr) (xs : List VI) (nh : Nat) (ds : List VR) (nd : Nat) (od : Obj) (tl : List (Addr × Obj)) : List (Addr × Obj) :=
  (hp, listOf (xs.map (·.1)).toArray nh) :: (dn, listOf (ds.map (·.1)).toArray nd) :: (sh, od) :: tl

local macro_rules | `(tactic| walk_at "m_stop") => `(tactic| first
  | with_reducible show wpAny _ _ (exec (Stmt.While _ _ _ _) _) _ _ _
  | with_reducible show wpAny _ _ (exec (Stmt.For _ _ _ _ _) _) _ _ _
  | with_reducible show wpAny _ _ (eval (Expr.ListComp _ _ _ _) _) _ _ _
  | with_reducible show wpAny _ _ (pyIter _) _ _ _
  | with_reducible show wpAny _ _ (subscriptTail _ _ (Value.ref _) _) _ _ _
  | with_reducible show wpAny _ _ (setItem _ _ _) _ _ _
  | with_reducible show wpAny _ _ (binaryOp Operator.Add (Value.str _ _) (Value.str _ _)) _ _ _
  | with_reducible show wpAny _ _ (compareOp _ _ (Value.ref _)) _ _ _
  | with_reducible show wpAny _ _ (call (Value.builtin _) _ _) _ _ _
  | with_reducible show wpAny _ _ (call (Value.ref _) _ _) _ _ _
  | with_reducible show KswEnd _ _ _ _ _ _ _ _ _ _ _ _
  | with_reducible show ForEnd _ _ _ _ _ _)
local macro_rules | `(tactic| walk_at "ForPost") => `(tactic| (dsimp only [ForPost]))
local macro_rules | `(tactic| walk_at "m_steps") => `(tactic| repeat' (first | ((fail_if_success (walk_at "m_stop")); (first | (k_unfold; (try dsimp only)) | (k_end; wrow_close) | walk1 | (dsimp only; walk1) | (leave1; (try dsimp only))))))

section
variable {w : World} {mean : ExcName → Option Value} {mg mb : Str → Option Value} {dp un : Nat} {gd : Option (List Code)} {cn : Str} {cs : Scope} {a : Addr} {ccd : Value} {cl : List (Str × Addr)} {outer : List Env} {A₀ : Around} {base h₀ : Heap} {L : Addr} {m : Str → Option Value} {s : Shared}
    {Q E : Value → Shared → Prop} {hp : Addr} {n : Nat} {rest : List (Addr × Obj)}

theorem run_t {O : List Offer} {Inv : List Item → List (Int × Str) → Prop} {μ : List Item → List (Int × Str) → Nat} (RI : RunInv O Inv μ) {ol : Addr} {os : List Value} {no : Nat} (B : Below A₀ base outer h₀) (F : Fr h₀ L s.heap m) (X : (Mine.hd.heap_39 w.params).In h₀) (T : Top Mine.hd.view_39 (looseW Mine.hd.view_39 [Str.ofString "_filemode_table"]) mean mg mb h₀) (hk : cs.kind = .function)
    (N : News h₀ L s.heap rest) (hol : (ol, listOf os.toArray no) ∈ rest) (hos : os.length = O.length) (hof : ∀ (i : Nat) v, os[i]? = some v → ∃ o, O[i]? = some o ∧ OfferIn rest v o) (hO6 : O.length ≤ 6)
    (hOk : ∀ o ∈ O, PyData.strOk o.1 = true ∧ o.1.length ≤ 10 ∧ 0 ≤ o.2 ∧ o.2 < 8) (hd : dp + 20 < recursionLimit) (hu : un + 200 < cLine)
    (hret : ∀ (dn : Addr) (ds : List VR) (nd : Nat) (extra : List (Addr × Obj)) h' tk', Inv [] (ds.map (·.2)) → Fr h₀ L h' m → News h₀ L h' ((dn, listOf (ds.map (·.1)).toArray nd) :: extra) → (∀ p ∈ rest, p ∈ extra) → (∀ d ∈ ds, RowIn extra d.1 d.2) → (∀ p ∈ extra, p.1 ≠ dn) → Q (.ref dn) { s with heap := h', toks := tk' }) :
    wpAny (model Challenge.rw_oh0024_01.row.prog w) (ktrTop dp un gd cn cs L a ccd cl outer) (call (.ref 113) [.ref ol]) Q E s := by
  revert X
  k_fill
  intro X
  refine wpAny_call ?_
  k_dflt ktr_enter
  rename Fr _ _ _ (fun y => List.lookup y _) => F0
  replace F0 := frNorm F0 (show _ = mapOf [(Str.ofString "offers", .ref ol)] from rfl)
  walk_at "m_steps"
  refine filemode_t (by assumption) (by assumption) (by assumption) (by assumption) rfl (by assumption) (by show dp + 1 + 8 < recursionLimit; omega) (by show un + 3 + 70 < cLine; omega) ?_
  intro h1 tk1 t1 F1 N1
  walk_at "m_steps"
  rename_i g' L' hA FG B' X' T' sh hB od0 hsh lo _ hC od hdict _ hD F2 N2
  replace F2 := frNorm F2 mapOf_if
  refine kda_item (knd := intKind _ _) N2 (.head _) hdict (intKind_is _ _ _ _) rfl ?_
  walk_at "m_steps"
  rename_i tkD D0 _ lD hp _ lH _ tkE dn _ lN hE F3 N3
  replace F3 := frNorm F3 (show _ = mapOf [(Str.ofString "down", .ref dn), (Str.ofString "heap", .ref hp), (Str.ofString "shown", Value.ref sh), (Str.ofString "offers", Value.ref ol)] from mapOf_if2)
  have hrestlt := allLt_mem lN.2.2.2
  refine' ksw_while (σ := List VI × Nat × List VR × Nat × Obj × List (Int × Value) × List (Addr × Obj)) (fun c => ledR hp dn sh c.1 c.2.1 c.2.2.1 c.2.2.2.1 c.2.2.2.2.1 c.2.2.2.2.2.2) (fun _ => [])
    (fun c => RunLed Challenge.rw_oh0024_01.row.prog w hp dn sh rest c.2.2.2.2.2.2 c.1 c.2.2.1 c.2.2.2.2.1 c.2.2.2.2.2.1 ∧ c.2.2.2.2.2.1.length ≤ 1 + 6 * c.2.2.1.length)
    [Str.ofString "price", Str.ofString "listing", Str.ofString "names", Str.ofString "state", Str.ofString "name", Str.ofString "rights", Str.ofString "after"]
    (fun c => Inv (c.1.map (·.2)) (c.2.2.1.map (·.2))) (fun c => μ (c.1.map (·.2)) (c.2.2.1.map (·.2)))
    ([(.ref D0, (0, fmStr 33060, Str.empty, 33060))], 0, [], 0, od, [(33060, Value.str (fmStr 33060) t1)], (D0, tup4 (0, fmStr 33060, Str.empty, 33060) tkD t1 (tkD + 1 + 1 + 1) (tkD + 1 + 1 + 1 + 1) 0) :: rest) F3 ?kn ⟨?kr, ?kl⟩ (by simp) RI.start ?turn
  case kn => exact newsSub N3 (by
      intro p hp
      simp only [List.mem_cons] at hp ⊢
      rcases hp with h | h | h | h | h
      · exact .inr (.inl h)
      · exact .inl h
      · exact .inr (.inr (.inr (.inl h)))
      · exact .inr (.inr (.inl h))
      · exact .inr (.inr (.inr (.inr h))))
  case kl => simp
  case kr =>
    dsimp only
    refine ⟨?_, fun p hp => .tail _ hp, ?_, fun _ h => (nomatch h), hdict, ?_⟩
    · intro p hp
      rcases List.mem_cons.mp hp with rfl | hp
      · refine ⟨Nat.ne_of_lt lH.1, Nat.ne_of_lt lN.2.1, Nat.ne_of_gt lD.1⟩
      · exact ⟨Nat.ne_of_lt (allLt_mem lH.2.2 p hp), Nat.ne_of_lt (hrestlt p hp), Nat.ne_of_lt (hsh p hp)⟩
    · intro y hy
      rw [List.mem_singleton.mp hy]
      exact ⟨D0, _, _, _, _, _, rfl, .head _⟩
    · intro k v hv
      by_cases hk : (33060 : Int) = k
      · subst hk
        have e : Value.str (fmStr 33060) t1 = v := by simpa [valueAt] using hv
        exact ⟨t1, e.symm⟩
      · simp [valueAt, hk] at hv
  case turn =>
    rintro ⟨xs, nh, ds, nd, od, kvs, tl⟩ u h tkA ⟨R, hkv⟩ hInv F4 N4
    dsimp only at *
    k_fold
    walk_at "m_steps"
    rename_i lt _ F5 N5 lL
    obtain ⟨hb1, hb2, hb3, hb4⟩ := RI.ok _ _ hInv
    rw [List.length_map] at hb1 hb2
    refine ne_nil N5 (.tail _ (.head _)) (.head _) (fun y hy => (R.its y hy).mono fun p hp => .tail _ (.tail _ (.tail _ (.tail _ hp)))) (fun y hy => (hb3 _ (List.mem_map_of_mem hy)).1) (by show un + 3 + 64 < cLine; omega) ?_
    walk_at "m_steps"
    · rename xs.isEmpty = true => he
      rename News h₀ L _ _ => N6
      have hx0 : xs = [] := by cases xs with | nil => rfl | cons _ _ => cases he
      subst hx0
      refine hret dn ds nd tl _ _ hInv (by assumption) (newsSub N6 ?_) R.sub R.rows fun p hp => (R.off p hp).2.1
      intro p hp
      rcases List.mem_cons.mp hp with h | h
      · exact .tail _ (.tail _ (h ▸ .head _))
      · exact .tail _ (.tail _ (.tail _ (.tail _ h)))
    · rename xs.isEmpty = false => he
      obtain ⟨ys, y, rfl⟩ : ∃ ys y, xs = ys ++ [y] := ⟨xs.dropLast, xs.getLast (by intro h; rw [h] at he; cases he), (List.dropLast_concat_getLast _).symm⟩
      have hne1 : hp ≠ dn := Nat.ne_of_lt lN.1
      have hne2 : sh ≠ hp := Nat.ne_of_lt lH.2.1
      have hne3 : sh ≠ dn := Nat.ne_of_lt lN.2.2.1
      have hltl := allLt_mem lL.2.2.2
      have N6 : News g' L' _ ((hp, listOf ((ys ++ [y]).map (·.1)).toArray nh) :: (lt, listOf #[] 0) :: (dn, listOf (ds.map (·.1)).toArray nd) :: (sh, od) :: tl) := newsSub N5 (by
        intro p hp
        simp only [List.mem_cons] at hp ⊢
        rcases hp with h | h | h | h | h
        · exact .inr (.inl h)
        · exact .inl h
        · exact .inr (.inr (.inl h))
        · exact .inr (.inr (.inr (.inl h)))
        · exact .inr (.inr (.inr (.inr h))))
      have hoffH : ∀ p ∈ (lt, listOf #[] 0) :: (dn, listOf (ds.map (·.1)).toArray nd) :: (sh, od) :: tl, p.1 ≠ hp := by
        intro p hpm
        rcases List.mem_cons.mp hpm with rfl | hpm
        · exact Nat.ne_of_gt lL.1
        · rcases List.mem_cons.mp hpm with rfl | hpm
          · exact hne1.symm
          · rcases List.mem_cons.mp hpm with rfl | hpm
            · exact hne2
            · exact (R.off p hpm).1
      have hsubT : ∀ p ∈ tl, p ∈ (lt, listOf #[] 0) :: (dn, listOf (ds.map (·.1)).toArray nd) :: (sh, od) :: tl := fun p hp => .tail _ (.tail _ (.tail _ hp))
      have hys : ys.length ≤ 500 := by rw [List.length_append] at hb1; omega
      refine heappop_t (by assumption) (by assumption) (by assumption) (by assumption) rfl N6 hoffH (fun z hz => (R.its z (List.mem_append.mpr (.inl hz))).mono hsubT) ((R.its y (List.mem_append.mpr (.inr (.head _)))).mono hsubT) (by omega) (by show dp + 1 + 8 < recursionLimit; omega) (by show un + 3 + 70 < cLine; omega) ?_
      intro h6 tk6 F6 N7
      have hxin := hpop_fst_mem viLt ys y
      have hxsin := hpop_snd_mem viLt ys y
      have hxslen := hpop_length viLt ys y
      have hxmap := hpop_map (fun z : VI => z.2) viLt itemLt (fun _ _ => rfl) y ys
      generalize hpop viLt ys y = xr at N7 hxin hxsin hxslen hxmap ⊢
      obtain ⟨x, xs'⟩ := xr
      dsimp only at N7 hxin hxsin hxslen hxmap ⊢
      obtain ⟨ax, u1, u2, u3, u4, nx, hxv, hxm⟩ := R.its x hxin
      rw [hxv]
      have hTx : h6.IsTuple ax #[.int x.2.1 u1, .str x.2.2.1 u2, .str x.2.2.2.1 u3, .int x.2.2.2.2 u4] := ⟨_, (N7 _ (.tail _ (hsubT _ hxm))).1, rfl, nx, rfl⟩
      walk_at "m_steps"
      rename_i F8 N8
      refine LCg.ListComp_U (cl := []) F8 (by with_unfolding_all rfl) (by decide) rfl (by decide) rfl ?_
      walk1
      refine compSrc_list (vs := ds.map (·.1)) rfl F8 N8 (.tail _ (.tail _ (.head _))) (by rw [List.length_map, sizeLine_eq]; omega)
        (fun i ys' nx' => nx' = (hp, listOf (xs'.map (·.1)).toArray (nh + 1)) :: (lt, listOf #[] 0) :: (dn, listOf (ds.map (·.1)).toArray nd) :: (sh, od) :: tl ∧ StrsAre ys' ((ds.take i).map (·.2.2))) ⟨rfl, .nil⟩ ?_ ?_
      · rintro g9 i v ys' nx' I oI C oC D m2 h9 tk9 E9 hv ⟨rfl, hst⟩ hC hm2 F9 N9 off9 ne9
        obtain ⟨d, hd1, rfl⟩ : ∃ d, ds[i]? = some d ∧ d.1 = v := by simpa using hv
        obtain ⟨ad, v1, v2, nd2, hdv, hdm⟩ := R.rows d (List.mem_of_getElem? hd1)
        rw [hdv] at hm2
        walk_at "m_steps"
        refine item_tupleT (l := [.int d.2.1 v1, .str d.2.2 v2]) (j := 1) (N9.isTup (.tail _ (.tail _ (.tail _ (.tail _ (.tail _ (.tail _ (.tail _ hdm)))))))) (by decide) (by decide) rfl rfl ?_
        refine LCg.CompEnd.intro F9 N9 _ (fun _ h => h) off9 (.inr ⟨_, .tail _ (.tail _ (.head _)), rfl, _, rfl⟩) ⟨rfl, ?_⟩
        rw [List.take_add_one, hd1]
        simp only [Option.toList_some, List.map_append, List.map_cons, List.map_nil]
        exact strsApp hst (.cons _ _ .nil)
      · intro ys' nx' D h9 tk9 hJ F9 N9 hoffD
        obtain ⟨rfl, hst⟩ := hJ
        rw [List.length_map, List.take_length] at hst
        have hxok := hb3 x.2 (List.mem_map_of_mem hxin)
        refine notIn_strs N9 (.head _) hst ?_ hxok.1.1 (by show un + 3 + 65 < cLine; omega) ?_
        · intro z hz
          obtain ⟨d, hd1, rfl⟩ := List.mem_map.mp hz
          exact hb4 d.2 (List.mem_map_of_mem hd1)
        have hS := RI.step (ys.map (·.2)) y.2 (ds.map (·.2)) (by simpa using hInv)
        unfold runStep at hS
        rw [hxmap] at hS
        dsimp only at hS
        have hmapmap : (ds.map (·.2)).map (·.2) = ds.map (·.2.2) := by simp
        rw [hmapmap] at hS
        have hitsx : ∀ z ∈ xs', ItemIn tl z.1 z.2 := fun z hz => R.its z (hxsin z hz)
        by_cases hnew : x.2.2.1 ∈ ds.map (·.2.2)
        · rw [decide_eq_true hnew]
          rw [if_pos hnew] at hS
          walk_at "m_steps"
          refine ksw_end (c := (ys ++ [y], nh, ds, nd, od, kvs, tl)) (xs', nh + 1, ds, nd, od, kvs, tl) F9 N9 ?_ ⟨⟨R.off, R.sub, hitsx, R.rows, R.dict, R.shown⟩, hkv⟩ (by simp) ?_ hS.1 (by simpa using hS.2)
          · intro p hp
            simp only [List.mem_cons] at hp ⊢
            rcases hp with h | h | h | h
            · exact .inr (.inl h)
            · exact .inr (.inr (.inr (.inl h)))
            · exact .inr (.inr (.inr (.inr (.inl h))))
            · exact .inr (.inr (.inr (.inr (.inr h))))
          · intro z h2 h3
            simp only [List.contains_cons, List.contains_nil, Bool.or_false, Bool.or_eq_false_iff, beq_eq_false_iff_ne, ne_eq] at h3
            simp [kstB, h3]
        · rw [decide_eq_false hnew]
          have hTlt : ∀ p ∈ (D, LCg.lst ys') :: (hp, listOf (xs'.map (·.1)).toArray (nh + 1)) :: (lt, listOf #[] 0) :: (dn, listOf (ds.map (·.1)).toArray nd) :: (sh, od) :: tl, p.1 < h9.objs.size := fun p hp => Heap.lt_size (N9 p hp).1
          rw [if_neg hnew] at hS
          walk_at "m_steps"
          rename_i h10 F10 N10 hk10 nm10
          dsimp only at N10
          generalize h9.objs.size = T9 at N10 hTlt ⊢
          have N11 : News g' L' h10 ((dn, listOf (ds.map (·.1)).toArray nd) :: (hp, listOf (xs'.map (·.1)).toArray (nh + 1)) :: (sh, od) :: (T9, { cls := .type "tuple", data := .seq #[.int x.2.1 u1, .str x.2.2.1 u2] 0 }) :: tl) := newsSub N10 (by
            intro p hp
            simp only [List.mem_cons] at hp ⊢
            rcases hp with h | h | h | h | h
            · exact .inr (.inr (.inr (.inr (.inl h))))
            · exact .inr (.inr (.inl h))
            · exact .inr (.inr (.inr (.inr (.inr (.inl h)))))
            · exact .inl h
            · exact .inr (.inr (.inr (.inr (.inr (.inr h))))))
          have hoff11 : ∀ p ∈ (hp, listOf (xs'.map (·.1)).toArray (nh + 1)) :: (sh, od) :: (T9, ({ cls := .type "tuple", data := .seq #[.int x.2.1 u1, .str x.2.2.1 u2] 0 } : Obj)) :: tl, p.1 ≠ dn := by
            intro p hp
            simp only [List.mem_cons] at hp
            rcases hp with rfl | rfl | rfl | h
            · exact hne1
            · exact hne3
            · exact Nat.ne_of_gt (hTlt (dn, listOf (ds.map (·.1)).toArray nd) (.tail _ (.tail _ (.tail _ (.head _)))))
            · exact (R.off p h).2.1
          refine append_V F10 N11 hoff11 (by rw [List.length_map]; omega) ?_
          intro h11 F11 N12
          have N13 : News g' L' h11 (ledR hp dn sh xs' (nh + 1) (ds ++ [((.ref T9, (x.2.1, x.2.2.1)) : VR)]) (nd + 1) od ((T9, { cls := .type "tuple", data := .seq #[.int x.2.1 u1, .str x.2.2.1 u2] 0 }) :: tl)) := newsSub N12 (by
            intro p hp
            simp only [List.mem_cons, List.map_append, List.map_cons, List.map_nil] at hp ⊢
            rcases hp with h | h | h
            · exact .inr (.inl h)
            · exact .inl h
            · exact .inr (.inr h))
          clear N12
          have F12 : ∃ u', Fr g' L' h11 (mapU [Str.ofString "name", Str.ofString "rights", Str.ofString "after"] u' (mapOf [(Str.ofString "state", .int x.2.2.2.2 u4), (Str.ofString "names", .str x.2.2.2.1 u3), (Str.ofString "listing", .str x.2.2.1 u2), (Str.ofString "price", .int x.2.1 u1), (Str.ofString "down", .ref dn), (Str.ofString "heap", .ref hp), (Str.ofString "shown", Value.ref sh), (Str.ofString "offers", Value.ref ol)])) := by
            rw [← mapOf_if, ← mapOf_if, ← mapOf_if, ← mapOf_if]
            refine (mapU_of ?_).elim fun u' e => ⟨u', e ▸ F11⟩
            intro z hz
            simp only [List.contains_cons, List.contains_nil, Bool.or_false, Bool.or_eq_false_iff, beq_eq_false_iff_ne, ne_eq] at hz
            by_cases h1 : z = Str.ofString "state"
            · simp [h1]
            by_cases h2 : z = Str.ofString "names"
            · simp [h2]
            by_cases h3 : z = Str.ofString "listing"
            · simp [h3]
            by_cases h4 : z = Str.ofString "price"
            · simp [h4]
            simp [kstB, hz, h1, h2, h3, h4]
          obtain ⟨u', F12⟩ := F12
          clear F11 F10 N10 N11
          have R13 : RunLed Challenge.rw_oh0024_01.row.prog w hp dn sh rest ((T9, { cls := .type "tuple", data := .seq #[.int x.2.1 u1, .str x.2.2.1 u2] 0 }) :: tl) xs' (ds ++ [((.ref T9, (x.2.1, x.2.2.1)) : VR)]) od kvs := by
            refine ⟨?_, fun p hp => .tail _ (R.sub p hp), fun z hz => (hitsx z hz).mono fun p hp => .tail _ hp, ?_, R.dict, R.shown⟩
            · intro p hp
              rcases List.mem_cons.mp hp with rfl | hp
              · exact ⟨Nat.ne_of_gt (hTlt (_, _) (.tail _ (.head _))), Nat.ne_of_gt (hTlt (_, _) (.tail _ (.tail _ (.tail _ (.head _))))), Nat.ne_of_gt (hTlt (_, _) (.tail _ (.tail _ (.tail _ (.tail _ (.head _))))))⟩
              · exact R.off p hp
            · intro d hd
              rcases List.mem_append.mp hd with hd | hd
              · exact (R.rows d hd).mono fun p hp => .tail _ hp
              · rw [List.mem_singleton.mp hd]
                exact ⟨T9, u1, u2, 0, rfl, .head _⟩
          walk_at "m_steps"
          refine wpAny_For ?_
          walk_at "m_steps"
          refine for_list (vs := os) (n := no) rfl F12 N13 (.tail _ (.tail _ (.tail _ (R13.sub _ hol))))
            (fun i mm nx => ∃ xq nq odq kvq tlq uq, nx = ledR hp dn sh xq nq (ds ++ [((.ref T9, (x.2.1, x.2.2.1)) : VR)]) (nd + 1) odq tlq ∧ RunLed Challenge.rw_oh0024_01.row.prog w hp dn sh rest tlq xq (ds ++ [((.ref T9, (x.2.1, x.2.2.1)) : VR)]) odq kvq ∧
              xq.map (·.2) = pushAll x.2 (O.take i) (xs'.map (·.2)) ∧ xq.length = xs'.length + i ∧ kvq.length ≤ 1 + 6 * ds.length + i ∧ mm = mapU [Str.ofString "name", Str.ofString "rights", Str.ofString "after"] uq (mapOf [(Str.ofString "state", .int x.2.2.2.2 u4), (Str.ofString "names", .str x.2.2.2.1 u3), (Str.ofString "listing", .str x.2.2.1 u2), (Str.ofString "price", .int x.2.1 u1), (Str.ofString "down", .ref dn), (Str.ofString "heap", .ref hp), (Str.ofString "shown", Value.ref sh), (Str.ofString "offers", Value.ref ol)]))
            ⟨xs', nh + 1, od, kvs, _, u', rfl, R13, by simp [pushAll], rfl, by omega, rfl⟩ ?_ ?_ ?_
          · rintro i mm nx ⟨xq, nq, odq, kvq, tlq, uq, rfl, Rq, _⟩
            exact .tail _ (.tail _ (.tail _ (Rq.sub _ hol)))
          · rintro i v mm nx h13 tk13 own hv ⟨xq, nq, odq, kvq, tlq, uq, rfl, Rq, hmapq, hlenq, hkvq, rfl⟩ hoffo F14 N14
            obtain ⟨o, hOi, ao, w1, w2, no2, rfl, hom⟩ := hof i v hv
            have hTo : h13.IsTuple ao #[.str o.1 w1, .int o.2 w2] := ⟨_, (N14 _ (List.mem_append_right _ (.tail _ (.tail _ (.tail _ (Rq.sub _ hom)))))).1, rfl, no2, rfl⟩
            have hownS : ∀ q ∈ own, q.1 ≠ sh := fun q hq e => hoffo (sh, odq) (.tail _ (.tail _ (.head _))) q hq e.symm
            have hownH : ∀ q ∈ own, q.1 ≠ hp := fun q hq e => hoffo (hp, _) (.head _) q hq e.symm
            walk_at "m_steps"
            rename_i F15 N15
            dsimp only at F15 ⊢
            refine notIn_dict (k := aft x.2 o) N15 (List.mem_append_right _ (.tail _ (.tail _ (.head _)))) Rq.dict lo ?_
            have hi6 : i < 6 := by
              have : i < O.length := by rcases List.getElem?_eq_some_iff.mp hOi with ⟨h, _⟩; exact h
              omega
            have hkvb : kvq.length ≤ 100 := by
              have : i < O.length := by rcases List.getElem?_eq_some_iff.mp hOi with ⟨h, _⟩; exact h
              omega
            cases hsv : valueAt kvq (aft x.2 o) with
            | none =>
              simp only [Option.isSome_none, Bool.not_false]
              walk_at "m_steps"
              refine filemode_t (by assumption) (by assumption) (by assumption) (by assumption) rfl (by assumption) (by show dp + 1 + 8 < recursionLimit; omega) (by show un + 3 + 70 < cLine; omega) ?_
              intro h16 tk16 t16 F16 N16
              walk_at "m_steps"
              have N17 : News g' L' h16 ((sh, odq) :: (own ++ (hp, listOf (xq.map (·.1)).toArray nq) :: (dn, listOf ((ds ++ [((.ref T9, (x.2.1, x.2.2.1)) : VR)]).map (·.1)).toArray (nd + 1)) :: tlq)) := newsSub N16 (by
                intro p hp
                simp only [List.mem_cons, List.mem_append] at hp ⊢
                rcases hp with h | h | h | h | h
                · exact .inr (.inr (.inr (.inl h)))
                · exact .inl h
                · exact .inr (.inl h)
                · exact .inr (.inr (.inl h))
                · exact .inr (.inr (.inr (.inr h))))
              refine kda_set (knd := intKind _ _) (k := aft x.2 o) F16 N17 (.head ?_) Rq.dict (intKind_is _ _ _ _) (by rw [sizeLine_eq]; omega) ?_
              · intro p hp
                simp only [List.mem_cons, List.mem_append] at hp
                rcases hp with h | rfl | rfl | h
                · exact hownS p h
                · exact hne2.symm
                · exact hne3.symm
                · exact (Rq.off p h).2.2
              intro h17 od17 F17 N18 hdict17
              have R17 : RunLed Challenge.rw_oh0024_01.row.prog w hp dn sh rest tlq xq (ds ++ [((.ref T9, (x.2.1, x.2.2.1)) : VR)]) od17 (stored kvq (aft x.2 o) (.str (fmStr (aft x.2 o)) t16)) := by
                refine ⟨Rq.off, Rq.sub, Rq.its, Rq.rows, hdict17, ?_⟩
                intro k v hv
                rw [stored_absent hsv, valueAt_app] at hv
                cases hv2 : valueAt kvq k with
                | some z =>
                  rw [hv2] at hv
                  exact Rq.shown k v (hv2.trans hv)
                | none =>
                  rw [hv2] at hv
                  by_cases hkk : aft x.2 o = k
                  · subst hkk
                    rw [if_pos rfl] at hv
                    exact ⟨t16, (Option.some.inj hv).symm⟩
                  · simp [hkk] at hv
              have hv17 : valueAt (stored kvq (aft x.2 o) (.str (fmStr (aft x.2 o)) t16)) (aft x.2 o) = some (.str (fmStr (aft x.2 o)) t16) := by
                rw [stored_absent hsv, valueAt_app, hsv]
                simp
              have hkv17 : (stored kvq (aft x.2 o) (.str (fmStr (aft x.2 o)) t16)).length ≤ 1 + 6 * ds.length + (i + 1) := by
                have := stored_length_le kvq (aft x.2 o) (.str (fmStr (aft x.2 o)) t16)
                omega
              generalize stored kvq (aft x.2 o) (.str (fmStr (aft x.2 o)) t16) = kv17 at hdict17 R17 hv17 hkv17
              replace N18 : News g' L' h17 (own ++ ledR hp dn sh xq nq (ds ++ [((.ref T9, (x.2.1, x.2.2.1)) : VR)]) (nd + 1) od17 tlq) := newsSub N18 (by
                intro p hp
                simp only [List.mem_cons, List.mem_append] at hp ⊢
                rcases hp with h | h | h | h | h
                · exact .inr (.inl h)
                · exact .inr (.inr (.inl h))
                · exact .inr (.inr (.inr (.inl h)))
                · exact .inl h
                · exact .inr (.inr (.inr (.inr h))))
              clear N17 N16 F16 N15 F15
              walk_at "m_steps"
              have hl1 : x.2.2.2.1.length ≤ 50 := hxok.2
              have hl2 := (hOk o (List.mem_of_getElem? hOi)).2.1
              refine KOpn.add (by omega) ?_
              intro t17 tk17 hlen17
              walk_at "m_steps"
              refine escape_t (by assumption) (by assumption) (by assumption) (by assumption) rfl (by assumption) (by show dp + 1 + 3 < recursionLimit; omega) (by show un + 3 + 60 < cLine; omega) (by omega) ?_
              intro h18 tk18 t18 F18 N19
              have hT18 : ∀ p ∈ own ++ ledR hp dn sh xq nq (ds ++ [((.ref T9, (x.2.1, x.2.2.1)) : VR)]) (nd + 1) od17 tlq, p.1 < h18.objs.size := fun p hp => Heap.lt_size (N19 p hp).1
              walk_at "m_steps"
              refine PySem.P.len_str (by have := escStr_len (x.2.2.2.1 ++ o.1); have := textCost_le (x.2.2.2.1 ++ o.1).cps.toList; have := str_len (x.2.2.2.1 ++ o.1); omega) ?_
              walk_at "m_steps"
              rename News _ _ _ _ => N20
              refine kda_item (knd := intKind _ _) (k := aft x.2 o) N20 (List.mem_append_right _ (.tail _ (.tail _ (.head _)))) R17.dict (intKind_is _ _ _ _) hv17 ?_
              walk_at "m_steps"
              refine KOpn.add (by omega) ?_
              intro t19 tk19 _
              walk_at "m_steps"
              rename_i h20 F21 N21 hk21 nm21
              dsimp only at N21
              generalize h18.objs.size = T18 at N21 hT18 ⊢
              obtain ⟨t20, N21⟩ : ∃ t20, News g' L' h20 ((T18, tup4 (nextItem x.2 o) (tk18 + 1) t16 t19 t20 0) :: (own ++ ledR hp dn sh xq nq (ds ++ [((.ref T9, (x.2.1, x.2.2.1)) : VR)]) (nd + 1) od17 tlq)) := ⟨_, N21⟩
              have N22 : News g' L' h20 ((hp, listOf (xq.map (·.1)).toArray nq) :: (own ++ (dn, listOf ((ds ++ [((.ref T9, (x.2.1, x.2.2.1)) : VR)]).map (·.1)).toArray (nd + 1)) :: (sh, od17) :: (T18, tup4 (nextItem x.2 o) (tk18 + 1) t16 t19 t20 0) :: tlq)) := newsSub N21 (by
                intro p hp
                simp only [List.mem_cons, List.mem_append] at hp ⊢
                rcases hp with h | h | h | h | h | h
                · exact .inr (.inr (.inl h))
                · exact .inr (.inl h)
                · exact .inr (.inr (.inr (.inl h)))
                · exact .inr (.inr (.inr (.inr (.inl h))))
                · exact .inl h
                · exact .inr (.inr (.inr (.inr (.inr h)))))
              have hTne : ∀ p ∈ own ++ ledR hp dn sh xq nq (ds ++ [((.ref T9, (x.2.1, x.2.2.1)) : VR)]) (nd + 1) od17 tlq, T18 ≠ p.1 := fun p hp => Nat.ne_of_gt (hT18 p hp)
              have hsub22 : ∀ p ∈ (T18, tup4 (nextItem x.2 o) (tk18 + 1) t16 t19 t20 0) :: tlq, p ∈ own ++ (dn, listOf ((ds ++ [((.ref T9, (x.2.1, x.2.2.1)) : VR)]).map (·.1)).toArray (nd + 1)) :: (sh, od17) :: (T18, tup4 (nextItem x.2 o) (tk18 + 1) t16 t19 t20 0) :: tlq := fun p hp => List.mem_append_right _ (.tail _ (.tail _ hp))
              have hX : ItemIn ((T18, tup4 (nextItem x.2 o) (tk18 + 1) t16 t19 t20 0) :: tlq) (.ref T18) (nextItem x.2 o) := ⟨T18, _, _, _, _, _, rfl, .head _⟩
              have hit22 : ∀ z ∈ xq, ItemIn ((T18, tup4 (nextItem x.2 o) (tk18 + 1) t16 t19 t20 0) :: tlq) z.1 z.2 := fun z hz => (R17.its z hz).mono fun p hp => .tail _ hp
              refine heappush_t (x := (.ref T18, nextItem x.2 o)) (xs := xq) (by assumption) (by assumption) (by assumption) (by assumption) rfl N22 ?_ (fun z hz => (hit22 z hz).mono hsub22) (hX.mono hsub22) (by omega) (by show dp + 1 + 7 < recursionLimit; omega) (by show un + 3 + 60 < cLine; omega) ?_
              · intro p hp
                simp only [List.mem_cons, List.mem_append] at hp
                rcases hp with h | rfl | rfl | rfl | h
                · exact hownH p h
                · exact hne1.symm
                · exact hne2
                · exact hTne (hp, _) (List.mem_append_right _ (.head _))
                · exact (R17.off p h).1
              intro h22 tk22 F23 N23
              walk_at "m_steps"
              obtain ⟨u3', F24⟩ : ∃ u3', Fr g' L' h22 (mapU [Str.ofString "name", Str.ofString "rights", Str.ofString "after"] u3' (mapOf [(Str.ofString "state", .int x.2.2.2.2 u4), (Str.ofString "names", .str x.2.2.2.1 u3), (Str.ofString "listing", .str x.2.2.1 u2), (Str.ofString "price", .int x.2.1 u1), (Str.ofString "down", .ref dn), (Str.ofString "heap", .ref hp), (Str.ofString "shown", Value.ref sh), (Str.ofString "offers", Value.ref ol)])) := (mapU_of (by
                intro z hz
                simp only [List.contains_cons, List.contains_nil, Bool.or_false, Bool.or_eq_false_iff, beq_eq_false_iff_ne, ne_eq] at hz
                simp [mapU, hz])).elim fun u e => ⟨u, e ▸ F23⟩
              refine forEnd F24 (nx := ledR hp dn sh (hpush viLt (.ref T18, nextItem x.2 o) xq) (nq + 1) (ds ++ [((.ref T9, (x.2.1, x.2.2.1)) : VR)]) (nd + 1) od17 ((T18, tup4 (nextItem x.2 o) (tk18 + 1) t16 t19 t20 0) :: tlq)) (newsSub N23 ?_) ?_ ⟨hpush viLt (.ref T18, nextItem x.2 o) xq, nq + 1, od17, kv17, (T18, tup4 (nextItem x.2 o) (tk18 + 1) t16 t19 t20 0) :: tlq, u3', rfl, ?_, ?_, ?_, hkv17, rfl⟩
              · intro p hp
                simp only [List.mem_cons, List.mem_append] at hp ⊢
                rcases hp with h | h | h | h | h | h
                · exact .inr (.inl h)
                · exact .inl h
                · exact .inr (.inr (.inl h))
                · exact .inr (.inr (.inr (.inl h)))
                · exact .inr (.inr (.inr (.inr (.inl h))))
                · exact .inr (.inr (.inr (.inr (.inr h))))
              · intro p hp q hq
                simp only [List.mem_cons] at hp
                rcases hp with rfl | rfl | rfl | rfl | h
                · exact (hownH q hq).symm
                · exact hoffo (dn, _) (.tail _ (.head _)) q hq
                · exact (hownS q hq).symm
                · exact hTne q (List.mem_append_left _ hq)
                · exact hoffo p (.tail _ (.tail _ (.tail _ h))) q hq
              · refine ⟨?_, fun p hp => .tail _ (R17.sub p hp), ?_, fun d hd => (R17.rows d hd).mono fun p hp => .tail _ hp, R17.dict, R17.shown⟩
                · intro p hpm
                  rcases List.mem_cons.mp hpm with rfl | hpm
                  · exact ⟨hTne (hp, _) (List.mem_append_right _ (.head _)), hTne (dn, _) (List.mem_append_right _ (.tail _ (.head _))), hTne (sh, _) (List.mem_append_right _ (.tail _ (.tail _ (.head _))))⟩
                  · exact R17.off p hpm
                · intro z hz
                  rcases hpush_mem _ _ _ _ hz with rfl | hz
                  · exact hX
                  · exact hit22 z hz
              · rw [hpush_map (fun z : VI => z.2) viLt itemLt (fun _ _ => rfl), hmapq, List.take_add_one, hOi]
                simp [pushAll, List.foldl_append]
              · rw [hpush_length, hlenq]; omega
            | some vS =>
              simp only [Option.isSome_some, Bool.not_true]
              obtain ⟨t16, rfl⟩ := Rq.shown _ _ hsv
              have R17 := Rq
              have hv17 := hsv
              have hkv17 : kvq.length ≤ 1 + 6 * ds.length + (i + 1) := by omega
              walk_at "m_steps"
              have hl1 : x.2.2.2.1.length ≤ 50 := hxok.2
              have hl2 := (hOk o (List.mem_of_getElem? hOi)).2.1
              refine KOpn.add (by omega) ?_
              intro t17 tk17 hlen17
              walk_at "m_steps"
              refine escape_t (by assumption) (by assumption) (by assumption) (by assumption) rfl (by assumption) (by show dp + 1 + 3 < recursionLimit; omega) (by show un + 3 + 60 < cLine; omega) (by omega) ?_
              intro h18 tk18 t18 F18 N19
              have hT18 : ∀ p ∈ own ++ ledR hp dn sh xq nq (ds ++ [((.ref T9, (x.2.1, x.2.2.1)) : VR)]) (nd + 1) odq tlq, p.1 < h18.objs.size := fun p hp => Heap.lt_size (N19 p hp).1
              walk_at "m_steps"
              refine PySem.P.len_str (by have := escStr_len (x.2.2.2.1 ++ o.1); have := textCost_le (x.2.2.2.1 ++ o.1).cps.toList; have := str_len (x.2.2.2.1 ++ o.1); omega) ?_
              walk_at "m_steps"
              rename News _ _ _ _ => N20
              refine kda_item (knd := intKind _ _) (k := aft x.2 o) N20 (List.mem_append_right _ (.tail _ (.tail _ (.head _)))) R17.dict (intKind_is _ _ _ _) hv17 ?_
              walk_at "m_steps"
              refine KOpn.add (by omega) ?_
              intro t19 tk19 _
              walk_at "m_steps"
              rename_i h20 F21 N21 hk21 nm21
              dsimp only at N21
              generalize h18.objs.size = T18 at N21 hT18 ⊢
              obtain ⟨t20, N21⟩ : ∃ t20, News g' L' h20 ((T18, tup4 (nextItem x.2 o) (tk18 + 1) t16 t19 t20 0) :: (own ++ ledR hp dn sh xq nq (ds ++ [((.ref T9, (x.2.1, x.2.2.1)) : VR)]) (nd + 1) odq tlq)) := ⟨_, N21⟩
              have N22 : News g' L' h20 ((hp, listOf (xq.map (·.1)).toArray nq) :: (own ++ (dn, listOf ((ds ++ [((.ref T9, (x.2.1, x.2.2.1)) : VR)]).map (·.1)).toArray (nd + 1)) :: (sh, odq) :: (T18, tup4 (nextItem x.2 o) (tk18 + 1) t16 t19 t20 0) :: tlq)) := newsSub N21 (by
                intro p hp
                simp only [List.mem_cons, List.mem_append] at hp ⊢
                rcases hp with h | h | h | h | h | h
                · exact .inr (.inr (.inl h))
                · exact .inr (.inl h)
                · exact .inr (.inr (.inr (.inl h)))
                · exact .inr (.inr (.inr (.inr (.inl h))))
                · exact .inl h
                · exact .inr (.inr (.inr (.inr (.inr h)))))
              have hTne : ∀ p ∈ own ++ ledR hp dn sh xq nq (ds ++ [((.ref T9, (x.2.1, x.2.2.1)) : VR)]) (nd + 1) odq tlq, T18 ≠ p.1 := fun p hp => Nat.ne_of_gt (hT18 p hp)
              have hsub22 : ∀ p ∈ (T18, tup4 (nextItem x.2 o) (tk18 + 1) t16 t19 t20 0) :: tlq, p ∈ own ++ (dn, listOf ((ds ++ [((.ref T9, (x.2.1, x.2.2.1)) : VR)]).map (·.1)).toArray (nd + 1)) :: (sh, odq) :: (T18, tup4 (nextItem x.2 o) (tk18 + 1) t16 t19 t20 0) :: tlq := fun p hp => List.mem_append_right _ (.tail _ (.tail _ hp))
              have hX : ItemIn ((T18, tup4 (nextItem x.2 o) (tk18 + 1) t16 t19 t20 0) :: tlq) (.ref T18) (nextItem x.2 o) := ⟨T18, _, _, _, _, _, rfl, .head _⟩
              have hit22 : ∀ z ∈ xq, ItemIn ((T18, tup4 (nextItem x.2 o) (tk18 + 1) t16 t19 t20 0) :: tlq) z.1 z.2 := fun z hz => (R17.its z hz).mono fun p hp => .tail _ hp
              refine heappush_t (x := (.ref T18, nextItem x.2 o)) (xs := xq) (by assumption) (by assumption) (by assumption) (by assumption) rfl N22 ?_ (fun z hz => (hit22 z hz).mono hsub22) (hX.mono hsub22) (by omega) (by show dp + 1 + 7 < recursionLimit; omega) (by show un + 3 + 60 < cLine; omega) ?_
              · intro p hp
                simp only [List.mem_cons, List.mem_append] at hp
                rcases hp with h | rfl | rfl | rfl | h
                · exact hownH p h
                · exact hne1.symm
                · exact hne2
                · exact hTne (hp, _) (List.mem_append_right _ (.head _))
                · exact (R17.off p h).1
              intro h22 tk22 F23 N23
              walk_at "m_steps"
              obtain ⟨u3', F24⟩ : ∃ u3', Fr g' L' h22 (mapU [Str.ofString "name", Str.ofString "rights", Str.ofString "after"] u3' (mapOf [(Str.ofString "state", .int x.2.2.2.2 u4), (Str.ofString "names", .str x.2.2.2.1 u3), (Str.ofString "listing", .str x.2.2.1 u2), (Str.ofString "price", .int x.2.1 u1), (Str.ofString "down", .ref dn), (Str.ofString "heap", .ref hp), (Str.ofString "shown", Value.ref sh), (Str.ofString "offers", Value.ref ol)])) := (mapU_of (by
                intro z hz
                simp only [List.contains_cons, List.contains_nil, Bool.or_false, Bool.or_eq_false_iff, beq_eq_false_iff_ne, ne_eq] at hz
                simp [mapU, hz])).elim fun u e => ⟨u, e ▸ F23⟩
              refine forEnd F24 (nx := ledR hp dn sh (hpush viLt (.ref T18, nextItem x.2 o) xq) (nq + 1) (ds ++ [((.ref T9, (x.2.1, x.2.2.1)) : VR)]) (nd + 1) odq ((T18, tup4 (nextItem x.2 o) (tk18 + 1) t16 t19 t20 0) :: tlq)) (newsSub N23 ?_) ?_ ⟨hpush viLt (.ref T18, nextItem x.2 o) xq, nq + 1, odq, kvq, (T18, tup4 (nextItem x.2 o) (tk18 + 1) t16 t19 t20 0) :: tlq, u3', rfl, ?_, ?_, ?_, hkv17, rfl⟩
              · intro p hp
                simp only [List.mem_cons, List.mem_append] at hp ⊢
                rcases hp with h | h | h | h | h | h
                · exact .inr (.inl h)
                · exact .inl h
                · exact .inr (.inr (.inl h))
                · exact .inr (.inr (.inr (.inl h)))
                · exact .inr (.inr (.inr (.inr (.inl h))))
                · exact .inr (.inr (.inr (.inr (.inr h))))
              · intro p hp q hq
                simp only [List.mem_cons] at hp
                rcases hp with rfl | rfl | rfl | rfl | h
                · exact (hownH q hq).symm
                · exact hoffo (dn, _) (.tail _ (.head _)) q hq
                · exact (hownS q hq).symm
                · exact hTne q (List.mem_append_left _ hq)
                · exact hoffo p (.tail _ (.tail _ (.tail _ h))) q hq
              · refine ⟨?_, fun p hp => .tail _ (R17.sub p hp), ?_, fun d hd => (R17.rows d hd).mono fun p hp => .tail _ hp, R17.dict, R17.shown⟩
                · intro p hpm
                  rcases List.mem_cons.mp hpm with rfl | hpm
                  · exact ⟨hTne (hp, _) (List.mem_append_right _ (.head _)), hTne (dn, _) (List.mem_append_right _ (.tail _ (.head _))), hTne (sh, _) (List.mem_append_right _ (.tail _ (.tail _ (.head _))))⟩
                  · exact R17.off p hpm
                · intro z hz
                  rcases hpush_mem _ _ _ _ hz with rfl | hz
                  · exact hX
                  · exact hit22 z hz
              · rw [hpush_map (fun z : VI => z.2) viLt itemLt (fun _ _ => rfl), hmapq, List.take_add_one, hOi]
                simp [pushAll, List.foldl_append]
              · rw [hpush_length, hlenq]; omega
          · rintro mm nx h13 tk13 ⟨xq, nq, odq, kvq, tlq, uq, rfl, Rq, hmapq, hlenq, hkvq, rfl⟩ F14 N14
            rw [hos, List.take_length] at hmapq
            rw [hos] at hkvq
            walk_at "m_steps"
            refine ksw_end (c := (ys ++ [y], nh, ds, nd, od, kvs, tl)) (xq, nq, (ds ++ [((.ref T9, (x.2.1, x.2.2.1)) : VR)]), nd + 1, odq, kvq, tlq) F14 N14 (fun p hp => hp) ⟨Rq, by simp; omega⟩ (by simp) ?_ ?_ ?_
            · intro z h2 h3
              simp only [List.contains_cons, List.contains_nil, Bool.or_false, Bool.or_eq_false_iff, beq_eq_false_iff_ne, ne_eq] at h3
              obtain ⟨q1, q2, q3, q4, q5, q6, q7⟩ := h3
              have b1 : (z == Str.ofString "state") = false := beq_eq_false_iff_ne.mpr q4
              have b2 : (z == Str.ofString "names") = false := beq_eq_false_iff_ne.mpr q3
              have b3 : (z == Str.ofString "listing") = false := beq_eq_false_iff_ne.mpr q2
              have b4 : (z == Str.ofString "price") = false := beq_eq_false_iff_ne.mpr q1
              simp [mapU, mapOf, List.lookup_cons, b1, b2, b3, b4, q1, q2, q3, q4, q5, q6, q7]
            · simpa [hmapq] using hS.1
            · simpa [hmapq] using hS.2
end
end Mine

end
section -- S8
open PySem PySem.W PyProof.Rows
set_option maxRecDepth 100000
set_option maxHeartbeats 4000000
namespace Mine
theorem freshS8 : True := by
  w_top off
  trivial
def signsStr : Str := Str.ofString "a&<>"
def offOf (x : Int) : Offer := (Txt.item (Str.ofString "a&<>") (x.fmod 4) ++ Txt.item (Str.ofString "a&<>") ((x.fdiv 3).fmod 4), (x.fdiv 2).fmod 8)
theorem OfferIn.mono {news news' : List (Addr × Obj)} {v : Value} {d : Offer} (h : OfferIn news v d) (hs : ∀ p ∈ news, p ∈ news') : OfferIn news' v d := by
  obtain ⟨a, t1, t2, n, e, hm⟩ := h
  exact ⟨a, t1, t2, n, e, hs _ hm⟩
local macro_rules | `(tactic| walk_at "m_stop") => `(tactic| first
  | with_reducible show wpAny _ _ (eval (Expr.ListComp _ _ _ _) _) _ _ _
  | with_reducible show wpAny _ _ (call (Value.builtin _) _ _) _ _ _
  | with_reducible show wpAny _ _ (call (Value.ref _) _ _) _ _ _)
local macro_rules | `(tactic| walk_at "m_steps") => `(tactic| repeat' (first | ((fail_if_success (walk_at "m_stop")); (first | (k_unfold; (try dsimp only)) | (k_end; wrow_close) | walk1 | (dsimp only; walk1) | (leave1; (try dsimp only))))))
theorem intsAt : ∀ {vs : List Value} {xs : List Int}, IntsAre vs xs → ∀ (i : Nat) v, vs[i]? = some v → ∃ x t, xs[i]? = some x ∧ v = .int x t := by
  intro vs xs h
  induction h with
  | nil => intro i v hv; simp at hv
  | cons x t r ih =>
    intro i v hv
    cases i with
    | zero => exact ⟨x, t, rfl, by simpa using hv.symm⟩
    | succ i => simpa using ih i v (by simpa using hv)
section
variable {w : World} {mean : ExcName → Option Value} {mg mb : Str → Option Value} {dp un : Nat} {gd : Option (List Code)} {cn : Str} {cs : Scope} {a : Addr} {ccd : Value} {cl : List (Str × Addr)} {outer : List Env} {A₀ : Around} {base h₀ : Heap} {L : Addr} {m : Str → Option Value} {s : Shared}
    {Q E : Value → Shared → Prop} {rest : List (Addr × Obj)}

theorem offers_t {dl : Addr} {vs : List Value} {nv : Nat} {xs : List Int} (B : Below A₀ base outer h₀) (F : Fr h₀ L s.heap m) (X : (Mine.hd.heap_39 w.params).In h₀) (T : Top Mine.hd.view_39 (looseW Mine.hd.view_39 [Str.ofString "_filemode_table"]) mean mg mb h₀) (hk : cs.kind = .function)
    (N : News h₀ L s.heap rest) (hdl : (dl, listOf vs.toArray nv) ∈ rest) (hvs : IntsAre vs xs) (hlen : vs.length ≤ 6) (hd : dp + 20 < recursionLimit) (hu : un + 200 < cLine)
    (hret : ∀ (ol : Addr) (os : List Value) (no : Nat) (extra : List (Addr × Obj)) h' tk', Fr h₀ L h' m → News h₀ L h' ((ol, listOf os.toArray no) :: extra) → (∀ p ∈ rest, p ∈ extra) → (∀ p ∈ extra, p.1 ≠ ol) → os.length = vs.length → (∀ (i : Nat) v, os[i]? = some v → ∃ o, (xs.map offOf)[i]? = some o ∧ OfferIn extra v o) → Q (.ref ol) { s with heap := h', toks := tk' }) :
    wpAny (model Challenge.rw_oh0024_01.row.prog w) (ktrTop dp un gd cn cs L a ccd cl outer) (call (.ref 108) [.ref dl]) Q E s := by
  revert X
  k_fill
  intro X
  refine wpAny_call ?_
  k_dflt ktr_enter
  rename Fr _ _ _ (fun y => List.lookup y _) => F0
  replace F0 := frNorm F0 (show _ = mapOf [(Str.ofString "draws", .ref dl)] from rfl)
  walk_at "m_steps"
  rename Fr _ _ _ (mapOf _) => F1
  rename News _ _ _ _ => N1
  refine LCg.ListComp_U (cl := []) F1 (by with_unfolding_all rfl) (by decide) rfl (by decide) rfl ?_
  walk1
  refine compSrc_list (vs := vs) rfl F1 N1 hdl (by rw [sizeLine_eq]; omega)
    (fun i ys nx => (∀ p ∈ rest, p ∈ nx) ∧ ys.length = i ∧ ∀ (j : Nat) v, ys[j]? = some v → ∃ o, (xs.map offOf)[j]? = some o ∧ OfferIn nx v o) ⟨fun _ h => h, rfl, fun j v h => by simp at h⟩ ?_ ?_
  · rintro g9 i v ys nx I oI C oC D m2 h9 tk9 E9 hv ⟨hsub, hyl, hys⟩ hC hm2 F9 N9 off9 ne9
    obtain ⟨x, t, hx, rfl⟩ := intsAt hvs i v hv
    walk_at "m_steps"
    rename_i t' k _ D' h' F' N' l1
    refine LCg.CompEnd.intro F' N' ((D', ({ cls := .type "tuple", data := .seq #[Value.str (Txt.item (Str.ofString "a&<>") (x.fmod 4) ++ Txt.item (Str.ofString "a&<>") ((x.fdiv 3).fmod 4)) t', Value.int ((x.fdiv 2).fmod 8) (k + 1 + 1 + 1)] } : Obj)) :: nx) ?_ ⟨⟨Nat.ne_of_gt l1.1, Nat.ne_of_gt l1.2.1, Nat.ne_of_gt l1.2.2.1⟩, off9⟩ (.inr ⟨_, .tail _ (hsub _ hdl), rfl, _, rfl⟩) ⟨fun p hp => .tail _ (hsub p hp), by simp [hyl], ?_⟩
    · intro p hp
      simp only [List.mem_cons] at hp ⊢
      rcases hp with h | h | h | h | h
      · exact .inr (.inl h)
      · exact .inr (.inr (.inl h))
      · exact .inr (.inr (.inr (.inl h)))
      · exact .inl h
      · exact .inr (.inr (.inr (.inr h)))
    · intro j v hj
      rw [List.getElem?_append] at hj
      split at hj
      · obtain ⟨o, h1, h2⟩ := hys j v hj
        exact ⟨o, h1, h2.mono fun p hp => .tail _ hp⟩
      · have hji : j = i := by
          have := (List.getElem?_eq_some_iff.mp hj).1
          simp at this
          omega
        subst hji
        rw [hyl] at hj
        simp at hj
        subst hj
        exact ⟨offOf x, by simp [hx], D', t', _, _, rfl, .head _⟩
  · rintro ys nx D h tk ⟨hsub, hyl, hys⟩ F9 N9 hoff
    walk_at "m_steps"
    exact hret D ys _ nx _ _ (by assumption) (by assumption) hsub hoff hyl hys
end
end Mine

end
section -- C2
open PySem PySem.W PyProof.Rows
set_option maxRecDepth 100000
namespace Mine
theorem freshC2 : True := by
  w_top off
  trivial
section
variable {prog : Program} {w : World} {A : Around} {E : Value → Shared → Prop} {s : Shared} {h₀ : Heap} {L : Addr} {m : Str → Option Value} {env : Env}

/-- the source of a comprehension, over any walk -/
def WSrc (prog : Program) (w : World) (A : Around) (h₀ : Heap) (L : Addr) (m : Str → Option Value) (env : Env) (elt : Expr) (x : Str) (scope : Scope) (cl : List (Str × Addr)) (Q : Value → Shared → Prop) (it : Value) (s₂ : Shared) : Prop :=
  ∃ (I : Addr) (fp : List Addr) (n : Nat) (P : Nat → Value → Prop) (St : Nat → Heap → Prop) (S : List (Addr × Obj) → Prop) (news : List (Addr × Obj)), it = .ref I ∧ Walks prog w A I fp [I] n P St ∧ n ≤ sizeLine ∧ (∀ i h, St i h → ∃ o, h.get? I = some o) ∧
    (∀ i h h' o nw, St i h → h.get? I = some o → h'.get? I = some o → (∀ b o, h₀.get? b = some o → h'.get? b = some o) → News h₀ L h' nw → S nw → St i h') ∧
    St 0 s₂.heap ∧ (∀ b ∈ fp, b < s₂.heap.objs.size) ∧ Fr h₀ L s₂.heap m ∧ News h₀ L s₂.heap news ∧ L ≠ I ∧ h₀.get? I = none ∧ (∀ p ∈ news, p.1 ≠ I) ∧ S news ∧
    LCg.CompRest prog w A h₀ L m env elt x scope cl s₂ S P (LCg.FinE h₀ L m s₂ Q) n 0 [] news

theorem ListComp_W {elt iter : Expr} {x : Str} {px : Pos} {scope : Scope} {cl : List (Str × Addr)} {pos : Pos} {Q : Value → Shared → Prop} (_F : Fr h₀ L s.heap m)
    (hclos : closureFor scope env = pure cl) (hcell : ∀ y ∈ scope.names, y.2 ≠ .cell) (hkind : scope.kind = .function)
    (hnames : ∀ y ∈ scope.names, y.2 = .local → scope.names.lookup y.1 = some .local) (hx : scope.names.lookup x = some .local)
    (h : wpAny (model prog w) A (eval iter env) (fun xv s₁ => wpAny (model prog w) A (pyIter xv) (WSrc prog w A h₀ L m env elt x scope cl Q) E s₁) E s)
    (hs : ∀ x, foldedSetIterable iter env x = pure x := by intro _; rfl) :
    wpAny (model prog w) A (eval (.ListComp elt [⟨.Name x px, iter, [], 0⟩] scope pos) env) Q E s := by
  rw [eval_ListComp]
  refine wpAny_comprehension_free (use := none) rfl hs hclos hkind hnames (wpAny_mono h (fun xv s₁ h₁ => ?_) fun _ _ e => e)
  refine wpAny_mono h₁ (fun it s₂ h₂ => ?_) fun _ _ e => e
  obtain ⟨I, fp, n, P, St, S, news, rfl, W, hsz, hIo, hSt, hst, hfp, F, N, hLI, hI₀, off, hS, R⟩ := h₂
  refine LCg.block_U W hsz hIo hSt hcell hkind hx hst hfp F N hLI hI₀ off hS R ?_
  intro D C h tk m' ys news' F' N' o1 hn hC₀ hD₀ hCL hDL hCD offC fin
  refine ⟨m', hn, fun h'' hs'' => fin D h'' tk (F'.change hs'' hCL hC₀) (fun p hp => ?_) o1⟩
  refine ⟨hs''.extBut _ _ ?_ (N' p hp).1, (N' p hp).2⟩
  rcases List.mem_cons.mp hp with rfl | hp
  · exact Ne.symm hCD
  · exact offC p hp

theorem off1_mem {D : Addr} : ∀ {l : List (Addr × Obj)}, LCg.Off1 D l → ∀ p ∈ l, p.1 ≠ D
  | [], _, _, hp => nomatch hp
  | q :: r, o, p, hp => by
    rcases List.mem_cons.mp hp with rfl | hp
    · exact o.1
    · exact off1_mem o.2 p hp

theorem compW_str {elt : Expr} {x : Str} {scope : Scope} {cl : List (Str × Addr)} {tx : Str} {t : Tok} {news : List (Addr × Obj)} {Q : Value → Shared → Prop}
    (hh : A.handled = none) (F : Fr h₀ L s.heap m) (N : News h₀ L s.heap news) (hsz : tx.cps.size ≤ sizeLine)
    (J : Nat → List Value → List (Addr × Obj) → Prop) (h0 : J 0 [] news)
    (turn : ∀ i c u ys nx I oI C oC D m₂ h tk (E' : Value → Shared → Prop), tx.cps[i]? = some c → J i ys nx → LCg.NsObj oC m₂ → m₂ x = some (.str ⟨#[c]⟩ u) → Fr h₀ L h m → News h₀ L h ((I, oI) :: (C, oC) :: (D, LCg.lst ys) :: nx) → LCg.Off3 I C D nx → ((@Ne Nat I C) ∧ (@Ne Nat I D) ∧ (@Ne Nat C D)) →
      wpAny (model prog w) A (eval elt (compEnvC scope cl C env)) (LCg.CompEnd h₀ L m { s with heap := h, toks := tk } I oI C oC D (LCg.lst ys) (fun _ => True) (fun y nx' => J (i + 1) (ys ++ [y]) nx')) E' { s with heap := h, toks := tk })
    (fin : ∀ ys nx D h tk, J tx.cps.size ys nx → Fr h₀ L h m → News h₀ L h ((D, LCg.lst ys) :: nx) → (∀ p ∈ nx, p.1 ≠ D) → Q (.ref D) { s with heap := h, toks := tk }) :
    wpAny (model prog w) A (pyIter (.str tx t)) (WSrc prog w A h₀ L m env elt x scope cl Q) E s := by
  have go : ∀ (T : String) (o : Obj), Walks prog w A s.heap.objs.size [s.heap.objs.size] [s.heap.objs.size] tx.cps.size (SignAt tx) (fun i h => h.IsStrIter s.heap.objs.size T tx t i) →
      (s.heap.push o).IsStrIter s.heap.objs.size T tx t 0 → WSrc prog w A h₀ L m env elt x scope cl Q (.ref s.heap.objs.size) { s with heap := s.heap.push o } := by
    intro T o W hst
    refine ⟨_, _, _, _, _, fun _ => True, news, rfl, W, hsz, ?_, ?_, hst, ?_, F.keeps fun _ _ e => Heap.get?_push_of_some _ e, N.grown fun _ _ e => Heap.get?_push_of_some _ e, Nat.ne_of_lt F.ns.lt, next_is_new F, fun p hp => Nat.ne_of_lt (Heap.lt_size (N p hp).1), trivial, ?_⟩
    · rintro i h ⟨o, e, _⟩
      exact ⟨o, e⟩
    · rintro i h h' o nw ⟨o', e, r⟩ h1 h2 _ _ _
      rw [h1] at e; cases e
      exact ⟨o, h2, r⟩
    · intro b hb
      rw [List.mem_singleton.mp hb]
      show s.heap.objs.size < (s.heap.push _).objs.size
      rw [Heap.size_push]; exact Nat.lt_succ_self _
    · refine compRest_of tx.cps.size J ?_ ?_ _ _ _ _ (Nat.zero_add _) h0
      · intro ys nx hJ D h tk F' N' off
        exact fin ys nx D h tk hJ F' N' (off1_mem off)
      · rintro i v ys nx I oI C oC D m₂ h tk E' hi ⟨c, u, hc, rfl⟩ hJ hC hx F' N' off ne
        exact turn i c u ys nx I oI C oC D m₂ h tk E' hc hJ hC hx F' N' off ne
  cases ha : tx.cps.all (· < 128)
  · exact wpAny_pyIter_wide ha (go _ _ (Walks.strWide hh _ tx t) ⟨_, Heap.get?_push_size _ rfl, rfl, rfl⟩)
  · exact wpAny_pyIter_ascii ha (go _ _ (Walks.strAscii hh _ tx t) ⟨_, Heap.get?_push_size _ rfl, rfl, rfl⟩)

theorem compW_dict {elt : Expr} {x : Str} {scope : Scope} {cl : List (Str × Addr)} {d : Addr} {od : Obj} {kvs : List (Int × Value)} {news : List (Addr × Obj)} {Q : Value → Shared → Prop}
    (hh : A.handled = none) (F : Fr h₀ L s.heap m) (N : News h₀ L s.heap news) (hm : (d, od) ∈ news) (hd : od.IsDictOf (intKind prog w) kvs) (lo : (d == sysModules) = false) (hsz : kvs.length ≤ sizeLine)
    (J : Nat → List Value → List (Addr × Obj) → Prop) (h0 : J 0 [] news)
    (turn : ∀ i k vk key ys nx I oI C oC D m₂ h tk (E' : Value → Shared → Prop), kvs[i]? = some (k, vk) → (intKind prog w).is k key = true → J i ys nx → LCg.NsObj oC m₂ → m₂ x = some key → Fr h₀ L h m → News h₀ L h ((I, oI) :: (C, oC) :: (D, LCg.lst ys) :: nx) → LCg.Off3 I C D nx → ((@Ne Nat I C) ∧ (@Ne Nat I D) ∧ (@Ne Nat C D)) →
      wpAny (model prog w) A (eval elt (compEnvC scope cl C env)) (LCg.CompEnd h₀ L m { s with heap := h, toks := tk } I oI C oC D (LCg.lst ys) (fun nw => (d, od) ∈ nw) (fun y nx' => J (i + 1) (ys ++ [y]) nx')) E' { s with heap := h, toks := tk })
    (fin : ∀ ys nx D h tk, J kvs.length ys nx → Fr h₀ L h m → News h₀ L h ((D, LCg.lst ys) :: nx) → (∀ p ∈ nx, p.1 ≠ D) → Q (.ref D) { s with heap := h, toks := tk }) :
    wpAny (model prog w) A (pyIter (.ref d)) (WSrc prog w A h₀ L m env elt x scope cl Q) E s := by
  obtain ⟨es, ep, h1, h2, h3, h4, h5⟩ := id hd
  have hat : ∀ h' : Heap, h'.get? d = some od → h'.DictAt (intKind prog w) d kvs ep := fun h' e => ⟨od, es, e, h1, h2, h3, h4, h5⟩
  have hg := (N _ hm).1
  have hlt : d < s.heap.objs.size := Heap.lt_size hg
  refine wpAny_pyIter_dict lo (hat _ hg) ?_
  refine ⟨_, _, _, _, _, fun nw => (d, od) ∈ nw, news, rfl, Walks.dictKeys hh _ d (Nat.ne_of_lt hlt) kvs ep, hsz, ?_, ?_, ⟨⟨_, Heap.get?_push_size _ rfl, rfl, rfl⟩, hat _ (Heap.get?_push_of_some _ hg)⟩, ?_, F.keeps fun _ _ e => Heap.get?_push_of_some _ e, N.grown fun _ _ e => Heap.get?_push_of_some _ e, Nat.ne_of_lt F.ns.lt, next_is_new F, fun p hp => Nat.ne_of_lt (Heap.lt_size (N p hp).1), hm, ?_⟩
  · rintro i h ⟨⟨o, e, _⟩, _⟩
    exact ⟨o, e⟩
  · rintro i h h' o nw ⟨⟨o', e, r⟩, _⟩ q1 q2 _ N' hS
    rw [q1] at e; cases e
    exact ⟨⟨o, q2, r⟩, hat _ (N' _ hS).1⟩
  · intro b hb
    show b < (s.heap.push _).objs.size
    rw [Heap.size_push]
    rcases List.mem_cons.mp hb with rfl | hb
    · exact Nat.lt_succ_self _
    · rw [List.mem_singleton.mp hb]; exact Nat.lt_succ_of_lt hlt
  · refine compRest_of kvs.length J ?_ ?_ _ _ _ _ (Nat.zero_add _) h0
    · intro ys nx hJ D h tk F' N' off
      exact fin ys nx D h tk hJ F' N' (off1_mem off)
    · rintro i v ys nx I oI C oC D m₂ h tk E' hi ⟨k, vk, hk, hkey⟩ hJ hC hx F' N' off ne
      exact turn i k vk v ys nx I oI C oC D m₂ h tk E' hk hkey hJ hC hx F' N' off ne
end
end Mine

end
section -- S9
open PySem PySem.W PyProof.Rows
set_option maxRecDepth 100000
set_option maxHeartbeats 4000000
namespace Mine
theorem freshS9 : True := by
  w_top off
  trivial
/-- the choice t of the offers: price and rights, by the first k offers -/
def chosen (O : List Offer) (t : Int) : Nat → Int × Int
  | 0 => (0, 0)
  | k + 1 => match O[k]? with
    | none => chosen O t k
    | some o => if (t.fdiv (2 ^ k)).fmod 2 = 1 then ((chosen O t k).1 + (textCost o.1.cps.toList : Int), Builtin.bitOr (chosen O t k).2 o.2) else chosen O t k
def getInt (B : List (Int × Int)) (g p : Int) : Int := ((B.find? fun kv => kv.1 = g).map (·.2)).getD p
def putInt (B : List (Int × Int)) (g q : Int) : List (Int × Int) := if B.any (fun kv => kv.1 = g) then B.map (fun kv => if kv.1 = g then (kv.1, q) else kv) else B ++ [(g, q)]
def putMin (B : List (Int × Int)) (g p : Int) : List (Int × Int) := putInt B g (min p (getInt B g p))
def bestOf (O : List Offer) : Nat → List (Int × Int)
  | 0 => []
  | t + 1 => putMin (bestOf O t) (chosen O t O.length).2 (chosen O t O.length).1
inductive IntVals : List (Int × Value) → List (Int × Int) → Prop
  | nil : IntVals [] []
  | cons (k p : Int) (t : Tok) {kvs B} : IntVals kvs B → IntVals ((k, .int p t) :: kvs) ((k, p) :: B)
theorem IntVals.length {kvs B} (h : IntVals kvs B) : kvs.length = B.length := by
  induction h with
  | nil => rfl
  | cons _ _ _ _ ih => simp [ih]
theorem IntVals.any {kvs B} (h : IntVals kvs B) (g : Int) : kvs.any (fun kv => kv.1 = g) = B.any (fun kv => kv.1 = g) := by
  induction h with
  | nil => rfl
  | cons _ _ _ _ ih => simp [ih]
theorem IntVals.find {kvs B} (h : IntVals kvs B) (g : Int) : (valueAt kvs g = none ∧ B.find? (fun kv => kv.1 = g) = none) ∨ ∃ p t, valueAt kvs g = some (.int p t) ∧ (B.find? (fun kv => kv.1 = g)).map (·.2) = some p := by
  induction h with
  | nil => exact .inl ⟨rfl, rfl⟩
  | cons k p t r ih =>
    by_cases hk : k = g
    · subst hk
      exact .inr ⟨p, t, by simp [valueAt], by simp⟩
    · rcases ih with ⟨h1, h2⟩ | ⟨q, u, h1, h2⟩
      · exact .inl ⟨by simpa [valueAt, hk] using h1, by simpa [hk] using h2⟩
      · exact .inr ⟨q, u, by simpa [valueAt, hk] using h1, by simpa [hk] using h2⟩
theorem IntVals.append {kvs B kvs' B'} (h : IntVals kvs B) (h' : IntVals kvs' B') : IntVals (kvs ++ kvs') (B ++ B') := by
  induction h with
  | nil => exact h'
  | cons k p t _ ih => exact .cons k p t ih
theorem IntVals.upd {kvs B} (h : IntVals kvs B) (g q : Int) (t : Tok) : IntVals (kvs.map fun kv => if kv.1 = g then (kv.1, .int q t) else kv) (B.map fun kv => if kv.1 = g then (kv.1, q) else kv) := by
  induction h with
  | nil => exact .nil
  | cons k p t' r ih =>
    by_cases hk : k = g
    · simp only [List.map_cons, hk, if_true]; exact .cons _ _ _ ih
    · simp only [List.map_cons, hk, if_false]; exact .cons _ _ _ ih
theorem IntVals.put {kvs B} (h : IntVals kvs B) (g q : Int) (t : Tok) : IntVals (stored kvs g (.int q t)) (putInt B g q) := by
  unfold stored putInt
  rw [h.any]
  split
  · exact h.upd g q t
  · exact h.append (.cons g q t .nil)
theorem putInt_length (B : List (Int × Int)) (g q : Int) : (putInt B g q).length ≤ B.length + 1 := by
  unfold putInt; split <;> simp
theorem bestOf_length (O : List Offer) : ∀ t, (bestOf O t).length ≤ t
  | 0 => Nat.le_refl _
  | t + 1 => Nat.le_trans (putInt_length _ _ _) (Nat.succ_le_succ (bestOf_length O t))
theorem fr3 {g h : Heap} {L : Addr} {mm : Str → Option Value} {k1 k2 k3 : Str} {v1 v2 v3 : Value} {st : List Str} {l : List (Str × Value)} (F : Fr g L h mm)
    (e : ∀ z, st.contains z = false → mm z = if z = k1 then some v1 else if z = k2 then some v2 else if z = k3 then some v3 else mapOf l z) : ∃ u', Fr g L h (mapU st u' (mapOf ((k1, v1) :: (k2, v2) :: (k3, v3) :: l))) := by
  rw [← mapOf_if, ← mapOf_if, ← mapOf_if]
  exact (mapU_of e).elim fun u' e => ⟨u', e ▸ F⟩
local macro_rules | `(tactic| walk_at "m_stop") => `(tactic| first
  | with_reducible show wpAny _ _ (exec (Stmt.For _ _ _ _ _) _) _ _ _
  | with_reducible show wpAny _ _ (eval (Expr.ListComp _ _ _ _) _) _ _ _
  | with_reducible show wpAny _ _ (pyIter _) _ _ _
  | with_reducible show wpAny _ _ (subscriptTail _ _ (Value.ref _) _) _ _ _
  | with_reducible show wpAny _ _ (setItem _ _ _) _ _ _
  | with_reducible show wpAny _ _ (call (Value.builtin "len") _ _) _ _ _
  | with_reducible show wpAny _ _ (binaryOp Operator.Pow _ _) _ _ _
  | with_reducible show wpAny _ _ (call (Value.builtin "sum") _ _) _ _ _
  | with_reducible show wpAny _ _ (call (Value.builtin "str.index") _ _) _ _ _
  | with_reducible show wpAny _ _ (call (Value.builtin "dict.get") _ _) _ _ _
  | with_reducible show ForEnd _ _ _ _ _ _)
local macro_rules | `(tactic| walk_at "ForPost") => `(tactic| (dsimp only [ForPost]))
local macro_rules | `(tactic| walk_at "m_steps") => `(tactic| repeat' (first | ((fail_if_success (walk_at "m_stop")); (first | (k_unfold; (try dsimp only)) | (k_end; wrow_close) | walk1 | (dsimp only; walk1) | (leave1; (try dsimp only))))))
section
variable {w : World} {mean : ExcName → Option Value} {mg mb : Str → Option Value} {dp un : Nat} {gd : Option (List Code)} {cn : Str} {cs : Scope} {a : Addr} {ccd : Value} {cl : List (Str × Addr)} {outer : List Env} {A₀ : Around} {base h₀ : Heap} {L : Addr} {m : Str → Option Value} {s : Shared}
    {Q E : Value → Shared → Prop} {rest : List (Addr × Obj)}

theorem best_t {O : List Offer} {ol : Addr} {os : List Value} {no : Nat} (B : Below A₀ base outer h₀) (F : Fr h₀ L s.heap m) (X : (Mine.hd.heap_39 w.params).In h₀) (T : Top Mine.hd.view_39 (looseW Mine.hd.view_39 [Str.ofString "_filemode_table"]) mean mg mb h₀) (hk : cs.kind = .function)
    (N : News h₀ L s.heap rest) (hol : (ol, listOf os.toArray no) ∈ rest) (hos : os.length = O.length) (hof : ∀ (i : Nat) v, os[i]? = some v → ∃ o, O[i]? = some o ∧ OfferIn rest v o) (hO6 : O.length ≤ 6)
    (hOk : ∀ o ∈ O, (∀ c ∈ o.1.cps.toList, c = 97 ∨ c = 38 ∨ c = 60 ∨ c = 62) ∧ o.1.length ≤ 10 ∧ 0 ≤ o.2 ∧ o.2 < 8) (hd : dp + 20 < recursionLimit) (hu : un + 200 < cLine)
    (hret : ∀ (bd : Addr) (od : Obj) (kvs : List (Int × Value)) h' tk', Fr h₀ L h' m → News h₀ L h' ((bd, od) :: rest) → od.IsDictOf (intKind Challenge.rw_oh0024_01.row.prog w) kvs → IntVals kvs (bestOf O (2 ^ O.length)) → (bd == sysModules) = false → (∀ p ∈ rest, p.1 < bd) → Q (.ref bd) { s with heap := h', toks := tk' }) :
    wpAny (model Challenge.rw_oh0024_01.row.prog w) (ktrTop dp un gd cn cs L a ccd cl outer) (call (.ref 118) [.ref ol]) Q E s := by
  revert X
  k_fill
  intro X
  refine wpAny_call ?_
  k_dflt ktr_enter
  rename Fr _ _ _ (fun y => List.lookup y _) => F0
  replace F0 := frNorm F0 (show _ = mapOf [(Str.ofString "offers", .ref ol)] from rfl)
  walk_at "m_steps"
  refine wpAny_For ?_
  walk_at "m_steps"
  rename_i g' L' h1 FG B' X' T' bd h2 od lD lo hs0 fs0 hdict fi0 h3 F1 N1
  clear hs0 fs0 fi0
  replace F1 := frNorm F1 mapOf_if
  refine len_V N1 (.tail _ hol) (by omega) ?_
  walk_at "m_steps"
  refine pow_int_small (by omega) (by omega) (by decide) ?_
  walk_at "m_steps"
  rename_i h4 tk4 t4 u4 v4 hr4 F4 N4 hk4
  clear hk4
  refine for_range (k := 2 ^ O.length) rfl hr4 (by rw [hos]; simp) (Nat.lt_of_le_of_lt (Nat.pow_le_pow_right (by decide) hO6) (by decide)) F4 N4
    (fun i mm nx => ∃ odq kvq uq, nx = (bd, odq) :: rest ∧ odq.IsDictOf (intKind _ w) kvq ∧ IntVals kvq (bestOf O i) ∧ mm = mapU [Str.ofString "taking", Str.ofString "price", Str.ofString "given", Str.ofString "k"] uq (mapOf [(Str.ofString "best", Value.ref bd), (Str.ofString "offers", .ref ol)]))
    ⟨od, [], mapU_refl.elim fun u e => ⟨u, rfl, hdict, .nil, e⟩⟩ ?_ ?_
  · rintro i ti mm nx h5 tk5 own hi ⟨odq, kvq, uq, rfl, hdq, hvq, rfl⟩ hoff F5 N5
    have hi64 : i < 64 := Nat.lt_of_lt_of_le hi (Nat.pow_le_pow_right (by decide) hO6)
    walk_at "m_steps"
    refine wpAny_For ?_
    walk_at "m_steps"
    rename_i F6 N6
    refine len_V N6 (List.mem_append_right _ (.tail _ hol)) (by omega) ?_
    walk_at "m_steps"
    rename_i h6 tk6 t6 u6 v6 hr6 F7 N7 hk6
    clear hk6
    obtain ⟨t1, t2, F7⟩ : ∃ t1 t2, Fr g' L' h6 (fun y => if y = Str.ofString "given" then some (.int (chosen O i 0).2 t1) else if y = Str.ofString "price" then some (.int (chosen O i 0).1 t2) else if y = Str.ofString "taking" then some (Value.int (i : Int) ti) else mapU [Str.ofString "taking", Str.ofString "price", Str.ofString "given", Str.ofString "k"] uq (mapOf [(Str.ofString "best", Value.ref bd), (Str.ofString "offers", .ref ol)]) y) := ⟨_, _, F7⟩
    obtain ⟨u', F8⟩ := fr3 (st := [Str.ofString "k"]) (k1 := Str.ofString "given") (v1 := .int (chosen O i 0).2 t1) (k2 := Str.ofString "price") (v2 := .int (chosen O i 0).1 t2) (k3 := Str.ofString "taking") (v3 := Value.int (i : Int) ti) (l := [(Str.ofString "best", Value.ref bd), (Str.ofString "offers", .ref ol)]) F7 (by
      intro z hz
      simp only [List.contains_cons, List.contains_nil, Bool.or_false, beq_eq_false_iff_ne, ne_eq] at hz
      by_cases h1 : z = Str.ofString "given"
      · simp [h1]
      by_cases h2 : z = Str.ofString "price"
      · simp [h2]
      by_cases h3 : z = Str.ofString "taking"
      · simp [h3]
      simp [mapU, hz, h1, h2, h3])
    clear F7
    refine for_range (k := O.length) rfl hr6 (by rw [hos]) (by omega) F8 N7
      (fun k mm nx => ∃ t1 t2 u', nx = own ++ (bd, odq) :: rest ∧ mm = mapU [Str.ofString "k"] u' (mapOf [(Str.ofString "given", .int (chosen O i k).2 t1), (Str.ofString "price", .int (chosen O i k).1 t2), (Str.ofString "taking", .int (i : Int) ti), (Str.ofString "best", Value.ref bd), (Str.ofString "offers", .ref ol)]))
      ⟨t1, t2, u', rfl, rfl⟩ ?_ ?_
    · rintro k tkk mm nx h7 tk7 own2 hk' ⟨t1, t2, u', rfl, rfl⟩ hoff2 F9 N9
      walk_at "m_steps"
      refine pow_int_small (by omega) (by omega) (by decide) ?_
      obtain ⟨o, hO⟩ : ∃ o, O[k]? = some o := ⟨O[k], by simp [hk']⟩
      obtain ⟨vo, hvo⟩ : ∃ v, os[k]? = some v := ⟨os[k]'(by omega), by simp [hos, hk']⟩
      obtain ⟨o', hO', ao, w1, w2, no2, rfl, hom⟩ := hof k vo hvo
      obtain rfl : o = o' := Option.some.inj (hO.symm.trans hO')
      obtain ⟨hsig, hl10, hl11, hl12⟩ := hOk o (List.mem_of_getElem? hO)
      walk_at "m_steps"
      · rename_i h8 F10 N10 tk10 hcnd
        refine ListComp_W (cl := []) F10 (by with_unfolding_all rfl) (by decide) rfl (by decide) rfl ?_
        walk_at "m_steps"
        refine sub_V N10 (List.mem_append_right _ (List.mem_append_right _ (.tail _ hol))) (by omega) (by omega) (by simpa using hvo) ?_
        walk_at "m_steps"
        refine item_tupleT (l := [.str o.1 w1, .int o.2 w2]) (j := 0) (N10.isTup (List.mem_append_right _ (List.mem_append_right _ (.tail _ hom)))) (by decide) (by decide) rfl rfl ?_
        walk_at "m_steps"
        refine compW_str rfl F10 N10 (by rw [sizeLine_eq]; have := str_len o.1; simp at this; omega) (fun j ys nx => nx = own2 ++ (own ++ (bd, odq) :: rest) ∧ IntsAre ys ((o.1.cps.toList.take j).map fun c => (signCost c : Int))) ⟨rfl, .nil⟩ ?_ ?_
        · rintro j c u ys nx I oI C oC D m2 h9 tk9 E9 hc ⟨rfl, hys⟩ hC hm2 F11 N11 off11 ne11
          have hcm : c ∈ o.1.cps.toList := by
            have : o.1.cps.toList[j]? = some c := by simpa using hc
            exact List.mem_of_getElem? this
          obtain ⟨j0, tv, hfind, hj0, hget⟩ : ∃ (j0 : Nat) (tv : Tok), Txt.find (Str.ofString "a&<>") ⟨#[c]⟩ = (j0 : Int) ∧ j0 < 4 ∧ ([.int 1 tk9, .int 5 (tk9 + 1), .int 4 (tk9 + 1 + 1), .int 4 (tk9 + 1 + 1 + 1)] : List Value)[j0]? = some (.int (signCost c : Int) tv) := by
            rcases hsig c hcm with rfl | rfl | rfl | rfl
            · exact ⟨0, _, by decide +kernel, by decide, rfl⟩
            · exact ⟨1, _, by decide +kernel, by decide, rfl⟩
            · exact ⟨2, _, by decide +kernel, by decide, rfl⟩
            · exact ⟨3, _, by decide +kernel, by decide, rfl⟩
          walk_at "m_steps"
          rename_i l' h' F' N' l1 cE'
          refine index_or (by with_unfolding_all rfl) (fun h0 => absurd (hfind.symm.trans h0) (by omega)) (fun _ _ => ?_)
          rw [hfind]
          walk_at "m_steps"
          refine sub_V N' (.head _) (by omega) (by omega) (by simpa using hget) ?_
          walk_at "m_steps"
          refine LCg.CompEnd.intro F' N' (own2 ++ (own ++ (bd, odq) :: rest)) (fun p hp => .tail _ hp) off11 trivial ⟨rfl, ?_⟩
          have e : o.1.cps.toList.take (j + 1) = o.1.cps.toList.take j ++ [c] := by
            rw [List.take_add_one]
            have : o.1.cps.toList[j]? = some c := by simpa using hc
            rw [this]; rfl
          rw [e, List.map_append]
          exact intsAre_append hys (.cons _ _ .nil)
        · rintro ys nx D h9 tk9 ⟨rfl, hys⟩ F11 N11 hoffD
          rw [List.take_of_length_le (by simp)] at hys
          walk_at "m_steps"
          refine sumK rfl F11 N11 ⟨_, (N11 _ (.head _)).1, rfl, _, rfl⟩ hys ?_
          intro h10 tk11 t10 F12 N12
          have hsum : ∀ l : List Nat, (l.map fun c => (signCost c : Int)).sum = (textCost l : Int) := by
            intro l
            induction l with
            | nil => rfl
            | cons c r ih => simp [textCost] at ih ⊢; exact ih
          rw [hsum]
          replace N12 := newsSub N12 (l' := own2 ++ (own ++ (bd, odq) :: rest)) fun p hp => .tail _ hp
          walk_at "m_steps"
          rename_i h11 F13 N13
          refine sub_V N13 (List.mem_append_right _ (List.mem_append_right _ (.tail _ hol))) (by omega) (by omega) (by simpa using hvo) ?_
          walk_at "m_steps"
          refine item_tupleT (l := [.str o.1 w1, .int o.2 w2]) (j := 1) (N13.isTup (List.mem_append_right _ (List.mem_append_right _ (.tail _ hom)))) (by decide) (by decide) rfl rfl ?_
          walk_at "m_steps"
          rename_i tk12 h12 F14 N14
          have hcnd' : ((i : Int).fdiv (2 ^ k)).fmod 2 = 1 := by simpa using hcnd
          have e : chosen O i (k + 1) = ((chosen O i k).1 + (textCost o.1.cps.toList : Int), Builtin.bitOr (chosen O i k).2 o.2) := by simp [chosen, hO, hcnd']
          obtain ⟨t1', t2', F15⟩ : ∃ t1' t2', Fr g' L' h12 (fun y => if y = Str.ofString "given" then some (.int (chosen O i (k + 1)).2 t1') else if y = Str.ofString "price" then some (.int (chosen O i (k + 1)).1 t2') else if y = Str.ofString "k" then some (Value.int (k : Int) tkk) else mapU [Str.ofString "k"] u' (mapOf [(Str.ofString "given", .int (chosen O i k).2 t1), (Str.ofString "price", .int (chosen O i k).1 t2), (Str.ofString "taking", .int (i : Int) ti), (Str.ofString "best", Value.ref bd), (Str.ofString "offers", .ref ol)]) y) := by
            rw [e]
            exact ⟨_, _, F14⟩
          obtain ⟨u3, F16⟩ := fr3 (st := [Str.ofString "k"]) (k1 := Str.ofString "given") (v1 := .int (chosen O i (k + 1)).2 t1') (k2 := Str.ofString "price") (v2 := .int (chosen O i (k + 1)).1 t2') (k3 := Str.ofString "taking") (v3 := Value.int (i : Int) ti) (l := [(Str.ofString "best", Value.ref bd), (Str.ofString "offers", .ref ol)]) F15 (by
            intro z hz
            simp only [List.contains_cons, List.contains_nil, Bool.or_false, beq_eq_false_iff_ne, ne_eq] at hz
            by_cases h1 : z = Str.ofString "given"
            · simp [h1]
            by_cases h2 : z = Str.ofString "price"
            · simp [h2]
            have b1 : (z == Str.ofString "given") = false := beq_eq_false_iff_ne.mpr h1
            have b2 : (z == Str.ofString "price") = false := beq_eq_false_iff_ne.mpr h2
            by_cases h3 : z = Str.ofString "taking"
            · have b3 : (z == Str.ofString "taking") = true := beq_iff_eq.mpr h3
              simp only [if_neg h1, if_neg h2, if_neg hz, if_pos h3]
              simp [mapU, mapOf, List.lookup_cons, b1, b2, b3, hz]
            · have b3 : (z == Str.ofString "taking") = false := beq_eq_false_iff_ne.mpr h3
              simp only [if_neg h1, if_neg h2, if_neg hz, if_neg h3]
              simp [mapU, mapOf, List.lookup_cons, b1, b2, b3, hz])
          exact forEnd F16 N14 hoff2 ⟨t1', t2', u3, rfl, rfl⟩
      · rename_i h8 F10 N10 tk10 hcnd
        have hcnd' : ¬ ((i : Int).fdiv (2 ^ k)).fmod 2 = 1 := by simpa using hcnd
        obtain ⟨u3, F12⟩ : ∃ u3, Fr g' L' h8 (mapU [Str.ofString "k"] u3 (mapOf [(Str.ofString "given", .int (chosen O i (k + 1)).2 t1), (Str.ofString "price", .int (chosen O i (k + 1)).1 t2), (Str.ofString "taking", .int (i : Int) ti), (Str.ofString "best", Value.ref bd), (Str.ofString "offers", .ref ol)])) := by
          have e : chosen O i (k + 1) = chosen O i k := by simp [chosen, hO, hcnd']
          rw [e]
          refine (mapU_of ?_).elim fun u e => ⟨u, e ▸ F10⟩
          intro z hz
          simp only [List.contains_cons, List.contains_nil, Bool.or_false, beq_eq_false_iff_ne, ne_eq] at hz
          simp [mapU, hz]
        exact forEnd F12 N10 hoff2 ⟨t1, t2, u3, rfl, rfl⟩
    · rintro mm nx h7 tk7 ⟨t1, t2, u', rfl, rfl⟩ F9 N9
      walk_at "m_steps"
      have hget : ∃ q t, ((valueAt kvq (chosen O i O.length).2).getD (.int (chosen O i O.length).1 t2)) = .int q t ∧ q = getInt (bestOf O i) (chosen O i O.length).2 (chosen O i O.length).1 := by
        unfold getInt
        rcases hvq.find (chosen O i O.length).2 with ⟨h1, h2⟩ | ⟨p, t, h1, h2⟩
        · rw [h1, h2]; exact ⟨_, _, rfl, rfl⟩
        · rw [h1, h2]; exact ⟨_, _, rfl, rfl⟩
      obtain ⟨q, tq, hq1, hq2⟩ := hget
      refine kdg_get2 (knd := intKind _ _) N9 (List.mem_append_right _ (.head _)) hdq lo (intKind_is _ _ _ _) _ rfl ?_
      rw [hq1]
      walk_at "m_steps"
      rename_i h8 tk8 F10 N10
      have N11 : News g' L' h8 ((bd, odq) :: (own ++ rest)) := newsSub N10 (by
        intro p hp
        simp only [List.mem_cons, List.mem_append] at hp ⊢
        rcases hp with h | h | h
        · exact .inr (.inl h)
        · exact .inl h
        · exact .inr (.inr h))
      have hlen := hvq.length
      have hbl := bestOf_length O i
      refine kda_set (knd := intKind _ _) F10 N11 (.head ?_) hdq (intKind_is _ _ _ _) (by rw [sizeLine_eq]; omega) ?_
      · intro p hp
        rcases List.mem_append.mp hp with h | h
        · exact fun e => hoff (bd, odq) (.head _) p h e.symm
        · exact Nat.ne_of_lt (lD p h)
      intro h9 od9 F11 N12 hd9
      walk_at "m_steps"
      obtain ⟨uq', F12⟩ : ∃ uq', Fr g' L' h9 (mapU [Str.ofString "taking", Str.ofString "price", Str.ofString "given", Str.ofString "k"] uq' (mapOf [(Str.ofString "best", Value.ref bd), (Str.ofString "offers", .ref ol)])) := (mapU_of (by
        intro z hz
        simp only [List.contains_cons, List.contains_nil, Bool.or_false, Bool.or_eq_false_iff, beq_eq_false_iff_ne, ne_eq] at hz
        obtain ⟨q1, q2, q3, q4⟩ := hz
        have b1 : (z == Str.ofString "taking") = false := beq_eq_false_iff_ne.mpr q1
        have b2 : (z == Str.ofString "price") = false := beq_eq_false_iff_ne.mpr q2
        have b3 : (z == Str.ofString "given") = false := beq_eq_false_iff_ne.mpr q3
        simp [mapU, mapOf, List.lookup_cons, b1, b2, b3, q4])).elim fun u e => ⟨u, e ▸ F11⟩
      refine forEnd F12 (nx := (bd, od9) :: rest) (newsSub N12 ?_) ?_ ⟨od9, _, uq', rfl, hd9, ?_, rfl⟩
      · intro p hp
        simp only [List.mem_cons, List.mem_append] at hp ⊢
        rcases hp with h | h | h
        · exact .inr (.inl h)
        · exact .inl h
        · exact .inr (.inr h)
      · intro p hp
        rcases List.mem_cons.mp hp with rfl | hp
        · exact hoff (bd, odq) (.head _)
        · exact hoff p (.tail _ hp)
      · have hmin : (if q < (chosen O i O.length).1 then q else (chosen O i O.length).1) = min (chosen O i O.length).1 (getInt (bestOf O i) (chosen O i O.length).2 (chosen O i O.length).1) := by
          rw [← hq2, Int.min_def]; split <;> split <;> omega
        show IntVals _ (putInt (bestOf O i) _ (min _ _))
        rw [← hmin]
        exact hvq.put _ _ _
  · rintro mm nx h5 tk5 ⟨odq, kvq, uq, rfl, hdq, hvq, rfl⟩ F5 N5
    walk_at "m_steps"
    exact hret bd odq kvq _ _ (by assumption) (by assumption) hdq hvq lo lD
end
end Mine

end
section -- P3
open PySem PySem.W PyProof.Rows
namespace Mine
theorem freshP3 : True := by
  w_top off
  trivial
/-- what the heap's order must be -/
structure LeOrd {α : Type} (lt : α → α → Bool) : Prop where
  asym : ∀ a b, lt a b = true → lt b a = false
  tr : ∀ a b c, lt b a = false → lt c b = false → lt c a = false
def HeapAt {α : Type} (lt : α → α → Bool) (xs : List α) : Prop := ∀ (j : Nat) (a b : α), 0 < j → xs[j]? = some a → xs[(j - 1) / 2]? = some b → lt a b = false
structure Hole {α : Type} (lt : α → α → Bool) (xs : List α) (p : Nat) : Prop where
  off : ∀ (j : Nat) (a b : α), 0 < j → j ≠ p → (j - 1) / 2 ≠ p → xs[j]? = some a → xs[(j - 1) / 2]? = some b → lt a b = false
  over : ∀ (j : Nat) (a b : α), 0 < p → 0 < j → (j - 1) / 2 = p → xs[j]? = some a → xs[(p - 1) / 2]? = some b → lt a b = false
def Under {α : Type} (lt : α → α → Bool) (x : α) (xs : List α) (p : Nat) : Prop := ∀ (j : Nat) (a : α), 0 < j → (j - 1) / 2 = p → xs[j]? = some a → lt a x = false
theorem get_set {α : Type} {xs : List α} {p j : Nat} {x a : α} (h : (xs.set p x)[j]? = some a) : (j = p ∧ a = x) ∨ (j ≠ p ∧ xs[j]? = some a) := by
  rw [List.getElem?_set] at h
  split at h
  · rename_i e
    split at h
    · exact .inl ⟨e.symm, (Option.some.inj h).symm⟩
    · cases h
  · rename_i e; exact .inr ⟨fun q => e q.symm, h⟩
theorem set_get {α : Type} {xs : List α} {p j : Nat} {x a : α} (hne : j ≠ p) (h : xs[j]? = some a) : (xs.set p x)[j]? = some a := by
  rw [List.getElem?_set, if_neg (fun e => hne e.symm)]; exact h
theorem set_at {α : Type} {xs : List α} {p : Nat} {x : α} (hp : p < xs.length) : (xs.set p x)[p]? = some x := by
  rw [List.getElem?_set, if_pos rfl, if_pos hp]
theorem hole_fill {α : Type} {lt : α → α → Bool} {x : α} {xs : List α} {p : Nat} (H : Hole lt xs p) (U : Under lt x xs p) (e : p = 0 ∨ ∃ q, xs[(p - 1) / 2]? = some q ∧ lt x q = false) : HeapAt lt (xs.set p x) := by
  intro j a b hj ha hb
  rcases get_set ha with ⟨rfl, rfl⟩ | ⟨hjp, ha⟩
  · rcases get_set hb with ⟨e1, rfl⟩ | ⟨_, hb⟩
    · omega
    · rcases e with e | ⟨q, hq, hl⟩
      · omega
      · rw [hq] at hb; cases hb; exact hl
  · rcases get_set hb with ⟨e1, e2⟩ | ⟨e1, hb⟩
    · exact e2 ▸ U j a hj e1 ha
    · exact H.off j a b hj hjp e1 ha hb
theorem sdGo_heap {α : Type} {lt : α → α → Bool} (O : LeOrd lt) (x : α) : ∀ (f : Nat) (xs : List α) (p : Nat), Hole lt xs p → Under lt x xs p → p < xs.length → p ≤ f → HeapAt lt (sdGo lt x f xs p)
  | 0, xs, p, H, U, hp, hf => hole_fill H U (.inl (by omega))
  | f + 1, xs, p, H, U, hp, hf => by
    rw [sdGo]
    split
    · rename_i h0; exact hole_fill H U (.inl h0)
    · rename_i h0
      split
      · rename_i q hq
        split
        · rename_i hl
          have hxq := O.asym _ _ hl
          have hne : (p - 1) / 2 ≠ p := by omega
          refine sdGo_heap O x f _ _ ⟨?_, ?_⟩ ?_ (by rw [List.length_set]; omega) (by omega)
          · intro j a b hj h1 h2 ha hb
            rcases get_set ha with ⟨rfl, rfl⟩ | ⟨hjp, ha⟩
            · exact absurd rfl h2
            · rcases get_set hb with ⟨e1, e2⟩ | ⟨e1, hb⟩
              · exact e2 ▸ H.over j a q (by omega) hj e1 ha hq
              · exact H.off j a b hj hjp e1 ha hb
          · intro j a b hp0 hj e1 ha hb
            rcases get_set hb with ⟨e2, _⟩ | ⟨e2, hb⟩
            · omega
            have hqb : lt q b = false := H.off _ _ _ hp0 hne e2 hq hb
            rcases get_set ha with ⟨rfl, rfl⟩ | ⟨hjp, ha⟩
            · exact hqb
            · have := H.off j a q hj hjp (by omega) ha (by rw [e1]; exact hq)
              exact O.tr _ _ _ hqb this
          · intro j a hj e1 ha
            rcases get_set ha with ⟨rfl, rfl⟩ | ⟨hjp, ha⟩
            · exact hxq
            · exact O.tr _ _ _ hxq (H.off j a q hj hjp (by omega) ha (by rw [e1]; exact hq))
        · rename_i hl
          exact hole_fill H U (.inr ⟨q, hq, by simpa using hl⟩)
      · rename_i hq
        have : (p - 1) / 2 < xs.length := by omega
        rw [List.getElem?_eq_none_iff] at hq
        omega
theorem sdGo_has {α : Type} {lt : α → α → Bool} (x z : α) : ∀ (f : Nat) (xs : List α) (p : Nat), p < xs.length → (z = x ∨ ∃ j, j ≠ p ∧ xs[j]? = some z) → z ∈ sdGo lt x f xs p := by
  have fin : ∀ (xs : List α) (p : Nat), p < xs.length → (z = x ∨ ∃ j, j ≠ p ∧ xs[j]? = some z) → z ∈ xs.set p x := by
    intro xs p hp h
    rcases h with rfl | ⟨j, hj, h⟩
    · exact List.mem_of_getElem? (set_at hp)
    · exact List.mem_of_getElem? (set_get hj h)
  intro f
  induction f with
  | zero => intro xs p hp h; exact fin xs p hp h
  | succ f ih =>
    intro xs p hp h
    rw [sdGo]
    split
    · exact fin xs p hp h
    · split
      · rename_i h0 q hq
        split
        · refine ih _ _ (by rw [List.length_set]; omega) ?_
          rcases h with h | ⟨j, hj, h⟩
          · exact .inl h
          · by_cases e : j = (p - 1) / 2
            · rw [e, hq] at h; cases h
              exact .inr ⟨p, by omega, set_at hp⟩
            · exact .inr ⟨j, e, set_get hj h⟩
        · exact fin xs p hp h
      · exact fin xs p hp h
theorem suGo_spec {α : Type} {lt : α → α → Bool} (O : LeOrd lt) : ∀ (f : Nat) (xs : List α) (p : Nat), Hole lt xs p → p < xs.length → xs.length ≤ f + p →
    Hole lt (suGo lt f xs p).1 (suGo lt f xs p).2 ∧ (suGo lt f xs p).2 < (suGo lt f xs p).1.length ∧ (suGo lt f xs p).1.length ≤ 2 * (suGo lt f xs p).2 + 1 ∧
    ∀ z, (∃ j, j ≠ p ∧ xs[j]? = some z) → ∃ j, j ≠ (suGo lt f xs p).2 ∧ (suGo lt f xs p).1[j]? = some z
  | 0, xs, p, H, hp, hf => by omega
  | f + 1, xs, p, H, hp, hf => by
    have go : ∀ (c : Nat) (y : α), p < c → (c - 1) / 2 = p → xs[c]? = some y → (∀ j a, (j - 1) / 2 = p → 0 < j → j ≠ c → xs[j]? = some a → lt a y = false) →
        Hole lt (suGo lt f (xs.set p y) c).1 (suGo lt f (xs.set p y) c).2 ∧ (suGo lt f (xs.set p y) c).2 < (suGo lt f (xs.set p y) c).1.length ∧ (suGo lt f (xs.set p y) c).1.length ≤ 2 * (suGo lt f (xs.set p y) c).2 + 1 ∧
        ∀ z, (∃ j, j ≠ p ∧ xs[j]? = some z) → ∃ j, j ≠ (suGo lt f (xs.set p y) c).2 ∧ (suGo lt f (xs.set p y) c).1[j]? = some z := by
      intro c y hpc hcp hy hmin
      have hcl : c < xs.length := (List.getElem?_eq_some_iff.mp hy).1
      have hc0 : 0 < c := Nat.lt_of_le_of_lt (Nat.zero_le _) hpc
      have := suGo_spec O f (xs.set p y) c ⟨?_, ?_⟩ (by rw [List.length_set]; exact hcl) (by rw [List.length_set]; clear hcp hcl; omega)
      · obtain ⟨a1, a2, a3, a4⟩ := this
        refine ⟨a1, a2, a3, fun z hz => a4 z ?_⟩
        obtain ⟨j, hj, hz⟩ := hz
        by_cases e : j = c
        · rw [e, hy] at hz; cases hz
          exact ⟨p, Nat.ne_of_lt hpc, set_at hp⟩
        · exact ⟨j, e, set_get hj hz⟩
      · intro j a b hj h1 h2 ha hb
        rcases get_set hb with ⟨e1, rfl⟩ | ⟨e1, hb⟩
        · rcases get_set ha with ⟨e2, _⟩ | ⟨_, ha⟩
          · clear hcp; omega
          · exact hmin j a e1 hj h1 ha
        · rcases get_set ha with ⟨e4, e3⟩ | ⟨e2, ha⟩
          · rw [e3]
            rw [e4] at hb hj
            exact H.over c y b hj hc0 hcp hy hb
          · exact H.off j a b hj e2 e1 ha hb
      · intro j a b hc0 hj e1 ha hb
        rw [hcp, set_at hp] at hb
        cases hb
        rcases get_set ha with ⟨e2, _⟩ | ⟨e2, ha⟩
        · clear hcp; omega
        · exact H.off j a _ hj e2 (by rw [e1]; exact Nat.ne_of_gt hpc) ha (by rw [e1]; exact hy)
    rw [suGo]
    split
    · rename_i y z hy hz
      split
      · rename_i hl
        refine go _ y (by omega) (by omega) hy fun j a e1 hj hne ha => ?_
        have : j = 2 * p + 2 := by omega
        rw [this, hz] at ha; cases ha
        exact O.asym _ _ hl
      · rename_i hl
        refine go _ z (by omega) (by omega) hz fun j a e1 hj hne ha => ?_
        have : j = 2 * p + 1 := by omega
        rw [this, hy] at ha; cases ha
        simpa using hl
    · rename_i y hy hz
      refine go _ y (by omega) (by omega) hy fun j a e1 hj hne ha => ?_
      have : j = 2 * p + 2 := by omega
      rw [this, hz] at ha; cases ha
    · rename_i hy
      rw [List.getElem?_eq_none_iff] at hy
      exact ⟨H, hp, hy, fun z hz => hz⟩
theorem hpush_heap {α : Type} {lt : α → α → Bool} (O : LeOrd lt) (x : α) (xs : List α) (h : HeapAt lt xs) : HeapAt lt (hpush lt x xs) := by
  refine sdGo_heap O x _ _ _ ⟨?_, ?_⟩ ?_ (by simp) (Nat.le_refl _)
  · intro j a b hj h1 h2 ha hb
    have hlt : j < (xs ++ [x]).length := (List.getElem?_eq_some_iff.mp ha).1
    rw [List.length_append, List.length_singleton] at hlt
    rw [List.getElem?_append_left (by omega)] at ha hb
    exact h j a b hj ha hb
  · intro j a b hp hj e1 ha hb
    have hlt : j < (xs ++ [x]).length := (List.getElem?_eq_some_iff.mp ha).1
    rw [List.length_append, List.length_singleton] at hlt
    omega
  · intro j a hj e1 ha
    have hlt : j < (xs ++ [x]).length := (List.getElem?_eq_some_iff.mp ha).1
    rw [List.length_append, List.length_singleton] at hlt
    omega
theorem hpush_has {α : Type} (lt : α → α → Bool) (x : α) (xs : List α) (z : α) : z ∈ hpush lt x xs ↔ z = x ∨ z ∈ xs := by
  refine ⟨hpush_mem lt x xs z, fun h => sdGo_has x z _ _ _ (by simp) ?_⟩
  rcases h with h | h
  · exact .inl h
  · obtain ⟨j, hj⟩ := List.getElem?_of_mem h
    have hlt := (List.getElem?_eq_some_iff.mp hj).1
    exact .inr ⟨j, by omega, by rw [List.getElem?_append_left hlt]; exact hj⟩
theorem heap_min {α : Type} {lt : α → α → Bool} (O : LeOrd lt) (ir : ∀ a, lt a a = false) {xs : List α} {y : α} (h : HeapAt lt xs) (h0 : xs[0]? = some y) : ∀ (n j : Nat) (a : α), j ≤ n → xs[j]? = some a → lt a y = false
  | 0, j, a, hj, ha => by
    have : j = 0 := by omega
    subst this
    rw [h0] at ha; cases ha; exact ir _
  | n + 1, j, a, hj, ha => by
    by_cases e : j = 0
    · subst e; rw [h0] at ha; cases ha; exact ir _
    · have hlt := (List.getElem?_eq_some_iff.mp ha).1
      obtain ⟨b, hb⟩ : ∃ b, xs[(j - 1) / 2]? = some b := ⟨_, List.getElem?_eq_getElem (by omega)⟩
      exact O.tr _ _ _ (heap_min O ir h h0 n _ b (by omega) hb) (h j a b (by omega) ha hb)
theorem hpop_spec {α : Type} {lt : α → α → Bool} (O : LeOrd lt) (ir : ∀ a, lt a a = false) (xs : List α) (x : α) (h : HeapAt lt (xs ++ [x])) :
    HeapAt lt (hpop lt xs x).2 ∧ (∀ z ∈ xs ++ [x], lt z (hpop lt xs x).1 = false) ∧ ∀ z, z ∈ xs ++ [x] ↔ z = (hpop lt xs x).1 ∨ z ∈ (hpop lt xs x).2 := by
  have mn : ∀ {y : α}, (xs ++ [x])[0]? = some y → ∀ z ∈ xs ++ [x], lt z y = false := fun h0 z hz => by
    obtain ⟨j, hj⟩ := List.getElem?_of_mem hz
    exact heap_min O ir h h0 j j z (Nat.le_refl _) hj
  have back : ∀ z, z = (hpop lt xs x).1 ∨ z ∈ (hpop lt xs x).2 → z ∈ xs ++ [x] := fun z hz => hz.elim (fun e => e ▸ hpop_fst_mem lt xs x) (hpop_snd_mem lt xs x z)
  cases xs with
  | nil => exact ⟨fun j a b _ ha => by simp [hpop] at ha, mn rfl, fun z => ⟨fun hz => .inl (List.mem_singleton.mp hz), back z⟩⟩
  | cons y ys =>
    obtain ⟨s1, s2, s3, s4⟩ := suGo_spec O (ys.length + 1) (x :: ys) 0 ⟨fun j a b hj h1 h2 ha hb => by
        have e1 : ∀ (k : Nat) c, 0 < k → (x :: ys)[k]? = some c → (y :: ys ++ [x])[k]? = some c := by
          intro k c hk hc
          obtain ⟨k, rfl⟩ : ∃ i, k = i + 1 := ⟨k - 1, by omega⟩
          have hlt := (List.getElem?_eq_some_iff.mp hc).1
          simp only [List.length_cons] at hlt
          show (ys ++ [x])[k]? = some c
          rw [List.getElem?_append_left (by omega)]
          exact hc
        exact h j a b hj (e1 _ _ hj ha) (e1 _ _ (by omega) hb), fun j a b h0 => absurd h0 (by omega)⟩ (by simp) (by simp)
    refine ⟨?_, mn rfl, fun z => ⟨fun hz => ?_, back z⟩⟩
    · refine sdGo_heap O x _ _ _ ⟨?_, ?_⟩ ?_ (by rw [List.length_set]; exact s2) (Nat.le_refl _)
      · intro j a b hj h1 h2 ha hb
        rcases get_set ha with ⟨e, _⟩ | ⟨_, ha⟩
        · exact absurd e h1
        rcases get_set hb with ⟨e, _⟩ | ⟨_, hb⟩
        · exact absurd e h2
        exact s1.off j a b hj h1 h2 ha hb
      · intro j a b hp hj e1 ha hb
        have hlt := (List.getElem?_eq_some_iff.mp ha).1
        rw [List.length_set] at hlt
        omega
      · intro j a hj e1 ha
        have hlt := (List.getElem?_eq_some_iff.mp ha).1
        rw [List.length_set] at hlt
        omega
    · have hz' : z = y ∨ z ∈ ys ∨ z = x := by simpa using hz
      rcases hz' with e | hz' | e
      · exact .inl e
      · refine .inr (sdGo_has x z _ _ _ (by rw [List.length_set]; exact s2) (.inr ?_))
        obtain ⟨j, hj⟩ := List.getElem?_of_mem hz'
        obtain ⟨i, hi, hz⟩ := s4 z ⟨j + 1, by omega, hj⟩
        exact ⟨i, hi, set_get hi hz⟩
      · exact .inr (sdGo_has x z _ _ _ (by rw [List.length_set]; exact s2) (.inl e))
theorem pushAll_heap (x : Item) (hO : LeOrd itemLt) : ∀ (os : List Offer) (its : List Item), HeapAt itemLt its → HeapAt itemLt (pushAll x os its)
  | [], _, h => h
  | _ :: os, _, h => pushAll_heap x hO os _ (hpush_heap hO _ _ h)
theorem pushAll_has (x z : Item) : ∀ (os : List Offer) (its : List Item), z ∈ pushAll x os its ↔ z ∈ its ∨ ∃ o ∈ os, z = nextItem x o
  | [], its => by simp [pushAll]
  | o :: os, its => by
    show z ∈ pushAll x os (hpush itemLt (nextItem x o) its) ↔ _
    rw [pushAll_has x z os, hpush_has]
    constructor
    · rintro ((h | h) | ⟨o', h1, h2⟩)
      · exact .inr ⟨o, .head _, h⟩
      · exact .inl h
      · exact .inr ⟨o', .tail _ h1, h2⟩
    · rintro (h | ⟨o', h1, h2⟩)
      · exact .inl (.inr h)
      · rcases List.mem_cons.mp h1 with rfl | h1
        · exact .inl (.inl h2)
        · exact .inr ⟨o', h1, h2⟩
theorem pushAll_length (x : Item) : ∀ (os : List Offer) (its : List Item), (pushAll x os its).length = its.length + os.length
  | [], its => rfl
  | o :: os, its => by
    show (pushAll x os (hpush itemLt (nextItem x o) its)).length = _
    rw [pushAll_length x os, hpush_length, List.length_cons]; omega
end Mine

end
section -- P4
open PySem PySem.W PyProof.Rows
namespace Mine
theorem freshP4 : True := by
  w_top off
  trivial
/-- the sort's questions, answered by lt -/
def kasAll {α : Type} (n : Nat) (lt : Nat → Nat → Bool) : KasT α → (α → Prop) → Prop
  | .ret a, P => P a
  | .ask i j k, P => i < n ∧ j < n ∧ kasAll n lt (k (lt i j)) P
theorem kasAll_bind {α β : Type} {n : Nat} {lt : Nat → Nat → Bool} {f : α → KasT β} {P : β → Prop} : ∀ (t : KasT α), kasAll n lt t (fun a => kasAll n lt (f a) P) → kasAll n lt (t.bind f) P
  | .ret _, h => h
  | .ask i j k, h => ⟨h.1, h.2.1, kasAll_bind (k (lt i j)) h.2.2⟩
theorem kasAll_mono {α : Type} {n : Nat} {lt : Nat → Nat → Bool} {P Q : α → Prop} (hq : ∀ a, P a → Q a) : ∀ (t : KasT α), kasAll n lt t P → kasAll n lt t Q
  | .ret _, h => hq _ h
  | .ask i j k, h => ⟨h.1, h.2.1, kasAll_mono hq (k (lt i j)) h.2.2⟩
theorem kasWp_of {α : Type} {n : Nat} {lt : Nat → Nat → Bool} {cmp : Nat → Nat → (Bool → Shared → Prop) → Shared → Prop} {s : Shared} {P : α → Prop} {Q : α → Shared → Prop}
    (hc : ∀ i j C, i < n → j < n → C (lt i j) s → cmp i j C s) (hq : ∀ a, P a → Q a s) : ∀ (t : KasT α), kasAll n lt t P → t.kasWp cmp Q s
  | .ret _, h => hq _ h
  | .ask i j k, h => hc i j _ h.1 h.2.1 (kasWp_of hc hq (k (lt i j)) h.2.2)
structure KOrd (n : Nat) (lt : Nat → Nat → Bool) : Prop where
  tr : ∀ a b c, lt a b = true → lt b c = true → lt a c = true
  tot : ∀ a b, a < n → b < n → a ≠ b → lt a b = false → lt b a = true
abbrev gd (p : Array Nat) (i : Nat) : Nat := p.getD i 0
structure PermN (n : Nat) (p : Array Nat) : Prop where
  pos : 0 < n
  perm : p.Perm (List.range n).toArray
theorem gd_eq {p : Array Nat} {i : Nat} {a : Nat} (h : p[i]? = some a) : gd p i = a := by simp [gd, h]
theorem PermN.size {n : Nat} {p : Array Nat} (h : PermN n p) : p.size = n := by simpa using h.perm.size_eq
theorem PermN.lt {n : Nat} {p : Array Nat} (h : PermN n p) (i : Nat) : gd p i < n := by
  by_cases hi : i < p.size
  · rw [gd_eq (Array.getElem?_eq_getElem hi)]
    have : p[i] ∈ (List.range n).toArray := h.perm.mem_iff.mp (Array.getElem_mem hi)
    simpa using this
  · rw [show gd p i = 0 by simp [gd, Nat.le_of_not_lt hi]]; exact h.pos
theorem PermN.inj {n : Nat} {p : Array Nat} (h : PermN n p) (i j : Nat) (hi : i < n) (hj : j < n) (e : gd p i = gd p j) : i = j := by
  have hs := h.size
  have hnd : p.toList.Nodup := (List.Perm.nodup_iff (by simpa using h.perm.toList)).mpr List.nodup_range
  rw [gd_eq (Array.getElem?_eq_getElem (by rw [hs]; exact hi)), gd_eq (Array.getElem?_eq_getElem (by rw [hs]; exact hj))] at e
  have e2 : p.toList[i]'(by simpa [hs] using hi) = p.toList[j]'(by simpa [hs] using hj) := by simpa using e
  exact (List.getElem_inj hnd).mp e2
theorem permN_range {n : Nat} (hn : 0 < n) : PermN n (List.range n).toArray := ⟨hn, .refl _⟩
def UpTo (lt : Nat → Nat → Bool) (p : Array Nat) (k : Nat) : Prop := ∀ i j, i < j → j < k → lt (gd p i) (gd p j) = true
def DownTo (lt : Nat → Nat → Bool) (p : Array Nat) (k : Nat) : Prop := ∀ i j, i < j → j < k → lt (gd p j) (gd p i) = true
variable {n : Nat} {lt : Nat → Nat → Bool}
theorem gd_rev {p : Array Nat} {m : Nat} (hm : m ≤ p.size) (k : Nat) : gd (kas_rev p 0 m) k = if k < m then gd p (m - 1 - k) else gd p k := by
  have e := getElem?_mirror_all (xs := p) (i := 0) (j := m) hm k
  unfold gd kas_rev
  rw [Array.getD_eq_getD_getElem?, e]
  by_cases h : k < m
  · rw [if_pos ⟨Nat.zero_le _, h⟩, if_pos h, Array.getD_eq_getD_getElem?]; congr 2; omega
  · rw [if_neg (fun x => h x.2), if_neg h, Array.getD_eq_getD_getElem?]
theorem permN_rev {p : Array Nat} {m : Nat} (h : PermN n p) : PermN n (kas_rev p 0 m) := ⟨h.pos, (mirror_perm _ _ _ _).trans h.perm⟩
theorem gd_bubble {p : Array Nat} {src d : Nat} (hs : src < p.size) (hd : d ≤ src) (k : Nat) : gd (bubble p src d) k = if k = src - d then gd p src else if src - d < k ∧ k ≤ src then gd p (k - 1) else gd p k := by
  have e := getElem?_bubble hs d hd k
  unfold gd
  rw [Array.getD_eq_getD_getElem?, e]
  by_cases c1 : k = src - d
  · rw [if_pos c1, if_pos c1, Array.getD_eq_getD_getElem?]
  · rw [if_neg c1, if_neg c1]
    by_cases c2 : src - d < k ∧ k ≤ src
    · rw [if_pos c2, if_pos c2, Array.getD_eq_getD_getElem?]
    · rw [if_neg c2, if_neg c2, Array.getD_eq_getD_getElem?]
theorem permN_bubble {p : Array Nat} {src d : Nat} (h : PermN n p) : PermN n (bubble p src d) := ⟨h.pos, (bubble_perm _ _ _).trans h.perm⟩
theorem UpTo.succ {p : Array Nat} {k : Nat} (O : KOrd n lt) (h : UpTo lt p k) (hk : 0 < k) (hl : lt (gd p (k - 1)) (gd p k) = true) : UpTo lt p (k + 1) := by
  intro i j hij hj
  by_cases e : j = k
  · subst e
    by_cases e1 : i = j - 1
    · subst e1; exact hl
    · exact O.tr _ _ _ (h i (j - 1) (by omega) (by omega)) hl
  · exact h i j hij (by omega)
theorem DownTo.succ {p : Array Nat} {k : Nat} (O : KOrd n lt) (h : DownTo lt p k) (hk : 0 < k) (hl : lt (gd p k) (gd p (k - 1)) = true) : DownTo lt p (k + 1) := by
  intro i j hij hj
  by_cases e : j = k
  · subst e
    by_cases e1 : i = j - 1
    · subst e1; exact hl
    · exact O.tr _ _ _ hl (h i (j - 1) (by omega) (by omega))
  · exact h i j hij (by omega)
theorem kasAll_asc (O : KOrd n lt) {p : Array Nat} (hp : PermN n p) : ∀ (f k : Nat), 0 < k → k + f = n → UpTo lt p k → kasAll n lt (kas_asc p f k) fun m => k ≤ m ∧ m ≤ n ∧ UpTo lt p m ∧ (m < n → lt (gd p m) (gd p (m - 1)) = true)
  | 0, k, h0, hk, hu => ⟨Nat.le_refl _, by omega, hu, by omega⟩
  | f + 1, k, h0, hk, hu => by
    refine ⟨hp.lt _, hp.lt _, ?_⟩
    dsimp only
    cases hc : lt (p.getD k 0) (p.getD (k - 1) 0) with
    | true => exact ⟨Nat.le_refl _, by omega, hu, fun _ => hc⟩
    | false =>
      have hl : lt (gd p (k - 1)) (gd p k) = true := O.tot _ _ (hp.lt _) (hp.lt _) (fun e => by have := hp.inj _ _ (by omega) (by omega) e; omega) hc
      exact kasAll_mono (fun m hm => ⟨Nat.le_of_succ_le hm.1, hm.2⟩) _ (kasAll_asc O hp f (k + 1) (by omega) (by omega) (hu.succ O h0 hl))
theorem kasAll_desc (O : KOrd n lt) {p : Array Nat} (hp : PermN n p) : ∀ (f k : Nat), 0 < k → k + f = n → DownTo lt p k → kasAll n lt (kas_desc f p k 0) fun r => r.1 = p ∧ r.2.2 = 0 ∧ k ≤ r.2.1 ∧ r.2.1 ≤ n ∧ DownTo lt p r.2.1
  | 0, k, h0, hk, hu => ⟨rfl, rfl, Nat.le_refl _, by show k ≤ n; omega, hu⟩
  | f + 1, k, h0, hk, hu => by
    refine ⟨hp.lt _, hp.lt _, ?_⟩
    dsimp only
    cases hc : lt (p.getD k 0) (p.getD (k - 1) 0) with
    | true => exact kasAll_mono (fun m hm => ⟨hm.1, hm.2.1, Nat.le_of_succ_le hm.2.2.1, hm.2.2.2⟩) _ (kasAll_desc O hp f (k + 1) (by omega) (by omega) (hu.succ O h0 hc))
    | false =>
      have hl : lt (p.getD (k - 1) 0) (p.getD k 0) = true := O.tot _ _ (hp.lt _) (hp.lt _) (fun e => by have := hp.inj _ _ (by omega) (by omega) e; omega) hc
      refine ⟨hp.lt _, hp.lt _, ?_⟩
      dsimp only
      rw [hl]
      exact ⟨rfl, rfl, Nat.le_refl _, by show k ≤ n; omega, hu⟩
theorem kasAll_count (O : KOrd n lt) (h2 : 2 ≤ n) {p : Array Nat} (hp : PermN n p) : kasAll n lt (kas_count n p) fun r => 1 ≤ r.1 ∧ r.1 ≤ n ∧ PermN n r.2 ∧ UpTo lt r.2 r.1 := by
  refine kasAll_bind _ (kasAll_mono ?_ _ (kasAll_asc O hp (n - 1) 1 (by omega) (by omega) (fun i j hi hj => by omega)))
  rintro m ⟨h1, hm, hu, hs⟩
  split
  · exact ⟨h1, hm, hp, hu⟩
  · rename_i hne
    have hmn : m < n := by
      have : m ≠ n := by simpa using hne
      omega
    split
    · rename_i hm1
      refine ⟨hp.lt _, hp.lt _, ?_⟩
      dsimp only
      rw [show lt (p.getD 0 0) (p.getD (m - 1) 0) = true from hu 0 (m - 1) (by omega) (by omega)]
      exact ⟨h1, hm, hp, hu⟩
    · have e1 : m = 1 := by omega
      subst e1
      refine kasAll_bind _ (kasAll_mono ?_ _ (kasAll_desc O hp (n - (1 + 1)) (1 + 1) (by omega) (by omega) ?_))
      · rintro ⟨p', k, q⟩ ⟨e1, e2, hk, hkn, hd⟩
        dsimp only at e1 e2 hk hkn hd ⊢
        subst e1 e2
        rw [if_neg (by omega)]
        have hr : PermN n (kas_rev p' 0 k) := permN_rev hp
        refine kasAll_bind _ (kasAll_mono ?_ _ (kasAll_asc O hr (n - k) k (by omega) (by omega) ?_))
        · rintro m ⟨a1, a2, a3, _⟩
          exact ⟨by show 1 ≤ m; omega, a2, hr, a3⟩
        · intro i j hij hj
          rw [gd_rev (by rw [hp.size]; exact hkn), gd_rev (by rw [hp.size]; exact hkn), if_pos (by omega), if_pos hj]
          exact hd _ _ (by omega) (by omega)
      · intro i j hij hj
        have : i = 0 := by omega
        have : j = 1 := by omega
        subst i j
        exact hs (by omega)
theorem kasAll_place (O : KOrd n lt) {p : Array Nat} (hp : PermN n p) {k : Nat} (hk : k < n) (hu : UpTo lt p k) : ∀ (f l r : Nat), l ≤ r → r ≤ k → r - l ≤ f → (∀ i, i < l → lt (gd p i) (gd p k) = true) → (∀ i, r ≤ i → i < k → lt (gd p k) (gd p i) = true) →
    kasAll n lt (kas_place p k f l r) fun m => m ≤ k ∧ (∀ i, i < m → lt (gd p i) (gd p k) = true) ∧ ∀ i, m ≤ i → i < k → lt (gd p k) (gd p i) = true
  | 0, l, r, hlr, hr, hf, h1, h2 => ⟨by omega, h1, fun i hi => h2 i (by omega)⟩
  | f + 1, l, r, hlr, hr, hf, h1, h2 => by
    rw [kas_place]
    split
    · exact ⟨by omega, h1, fun i hi => h2 i (by omega)⟩
    · refine ⟨hp.lt _, hp.lt _, ?_⟩
      dsimp only
      cases hc : lt (p.getD k 0) (p.getD ((l + r) / 2) 0) with
      | true =>
        refine kasAll_place O hp hk hu f l _ (by omega) (by omega) (by omega) h1 fun i hi hik => ?_
        by_cases e : i = (l + r) / 2
        · subst e; exact hc
        · exact O.tr _ _ _ hc (hu _ _ (by omega) hik)
      | false =>
        have hl : lt (gd p ((l + r) / 2)) (gd p k) = true := O.tot _ _ (hp.lt _) (hp.lt _) (fun e => by have := hp.inj _ _ (by omega) (by omega) e; omega) hc
        refine kasAll_place O hp hk hu f _ r (by omega) hr (by omega) (fun i hi => ?_) h2
        by_cases e : i = (l + r) / 2
        · subst e; exact hl
        · exact O.tr _ _ _ (hu i ((l + r) / 2) (by omega) (by omega)) hl
theorem kasAll_bin (O : KOrd n lt) : ∀ (f : Nat) (p : Array Nat) (k : Nat), PermN n p → k + f = n → UpTo lt p k → kasAll n lt (kas_bin f p k) fun p' => PermN n p' ∧ UpTo lt p' n
  | 0, p, k, hp, hk, hu => ⟨hp, by rw [show n = k by omega]; exact hu⟩
  | f + 1, p, k, hp, hk, hu => by
    refine kasAll_bind _ (kasAll_mono ?_ _ (kasAll_place O hp (k := k) (by omega) hu k 0 k (by omega) (by omega) (by omega) (fun i hi => by omega) (fun i hi hik => by omega)))
    rintro m ⟨hm, h1, h2⟩
    have hks : k < p.size := by rw [hp.size]; omega
    refine kasAll_bin O f _ (k + 1) (permN_bubble hp) (by omega) ?_
    intro i j hij hj
    rw [gd_bubble hks (by omega), gd_bubble hks (by omega)]
    have e : k - (k - m) = m := by omega
    rw [e]
    by_cases c1 : i = m
    · rw [if_pos c1, if_neg (by omega), if_pos (by omega)]
      exact h2 _ (by omega) (by omega)
    · rw [if_neg c1]
      by_cases c2 : m < i
      · rw [if_pos (by omega), if_neg (by omega), if_pos (by omega)]
        exact hu _ _ (by omega) (by omega)
      · rw [if_neg (by omega)]
        by_cases c3 : j = m
        · rw [if_pos c3]; exact h1 _ (by omega)
        · rw [if_neg c3]
          by_cases c4 : m < j
          · rw [if_pos (by omega)]
            exact hu _ _ (by omega) (by omega)
          · rw [if_neg (by omega)]
            exact hu _ _ (by omega) (by omega)
theorem kasAll_sort (O : KOrd n lt) (h2 : 2 ≤ n) : kasAll n lt (kas_sort n) fun p => PermN n p ∧ UpTo lt p n := by
  refine kasAll_bind _ (kasAll_mono ?_ _ (kasAll_count O h2 (permN_range (by omega))))
  rintro ⟨m, p⟩ ⟨h1, hm, hp, hu⟩
  dsimp only at h1 hm hp hu ⊢
  split
  · rw [show max m 1 = m by omega]
    exact kasAll_bin O _ p m hp (by omega) hu
  · exact ⟨hp, by rw [show n = m by omega]; exact hu⟩
end Mine

end
section -- P5
open PySem PySem.W PyProof.Rows
set_option maxRecDepth 100000
namespace Mine
theorem freshP5 : True := by
  w_top off
  trivial
abbrev orI (a b : Int) : Int := Builtin.bitOr a b
def R8 (g : Int) : Prop := 0 ≤ g ∧ g < 8
theorem R8.fin {g : Int} (h : R8 g) : ∃ k : _root_.Fin 8, g = ((k.val : Nat) : Int) := ⟨⟨g.toNat, by have := h.1; have := h.2; omega⟩, by have := h.1; show g = ((g.toNat : Nat) : Int); omega⟩
theorem or_all : ∀ a b c : _root_.Fin 8, (0 ≤ orI (a.val : Nat) (b.val : Nat) ∧ orI (a.val : Nat) (b.val : Nat) < 8) ∧ orI (orI (a.val : Nat) (b.val : Nat)) (b.val : Nat) = orI (a.val : Nat) (b.val : Nat) ∧ orI (orI (a.val : Nat) (b.val : Nat)) (c.val : Nat) = orI (orI (a.val : Nat) (c.val : Nat)) (b.val : Nat) := by decide +kernel
theorem R8.or {a b : Int} (ha : R8 a) (hb : R8 b) : R8 (orI a b) := by
  obtain ⟨a, rfl⟩ := ha.fin
  obtain ⟨b, rfl⟩ := hb.fin
  exact (or_all a b a).1
theorem or_again {a b : Int} (ha : R8 a) (hb : R8 b) : orI (orI a b) b = orI a b := by
  obtain ⟨a, rfl⟩ := ha.fin
  obtain ⟨b, rfl⟩ := hb.fin
  exact (or_all a b a).2.1
theorem or_swap {a b c : Int} (ha : R8 a) (hb : R8 b) (hc : R8 c) : orI (orI a b) c = orI (orI a c) b := by
  obtain ⟨a, rfl⟩ := ha.fin
  obtain ⟨b, rfl⟩ := hb.fin
  obtain ⟨c, rfl⟩ := hc.fin
  exact (or_all a b c).2.2
/-- the mode of a set of rights -/
def modeI (g : Int) : Int := 33060 + (g.fmod 4 * 64 + g.fdiv 4 * 2048)
theorem mode_all : ∀ a b : _root_.Fin 8, orI (modeI (a.val : Nat)) (((b.val : Nat) : Int).fmod 4 * 64 + ((b.val : Nat) : Int).fdiv 4 * 2048) = modeI (orI (a.val : Nat) (b.val : Nat)) := by decide +kernel
theorem list_all : ∀ a : _root_.Fin 8, fmStr (modeI (a.val : Nat)) = listStr (a.val : Nat) ∧ PyData.strOk (listStr (a.val : Nat)) = true ∧ (listStr (a.val : Nat)).length = 10 := by decide +kernel
theorem list_inj_all : ∀ a b : _root_.Fin 8, listStr (a.val : Nat) = listStr (b.val : Nat) → a = b := by decide +kernel
theorem mode_or {a b : Int} (ha : R8 a) (hb : R8 b) : orI (modeI a) (b.fmod 4 * 64 + b.fdiv 4 * 2048) = modeI (orI a b) := by
  obtain ⟨a, rfl⟩ := ha.fin
  obtain ⟨b, rfl⟩ := hb.fin
  exact mode_all a b
theorem list_mode {a : Int} (ha : R8 a) : fmStr (modeI a) = listStr a ∧ PyData.strOk (listStr a) = true ∧ (listStr a).length = 10 := by
  obtain ⟨a, rfl⟩ := ha.fin
  exact list_all a
theorem list_inj {a b : Int} (ha : R8 a) (hb : R8 b) (h : listStr a = listStr b) : a = b := by
  obtain ⟨a, rfl⟩ := ha.fin
  obtain ⟨b, rfl⟩ := hb.fin
  rw [list_inj_all a b h]
def cost (o : Offer) : Int := (textCost o.1.cps.toList : Int)
/-- a price and the rights that some sequence of offers gives -/
inductive Way (O : List Offer) : Int → Int → Prop
  | nil : Way O 0 0
  | more {p g : Int} (o : Offer) : Way O p g → o ∈ O → Way O (p + cost o) (orI g o.2)
structure OffOk (O : List Offer) : Prop where
  r8 : ∀ o ∈ O, R8 o.2
  pos : ∀ o ∈ O, 0 < cost o
variable {O : List Offer}
theorem Way.r8 (H : OffOk O) {p g : Int} (h : Way O p g) : R8 g := by
  induction h with
  | nil => exact ⟨by decide, by decide⟩
  | more o _ ho ih => exact ih.or (H.r8 o ho)
def SubW (O : List Offer) : Nat → Int → Int → Prop
  | 0, p, g => p = 0 ∧ g = 0
  | k + 1, p, g => SubW O k p g ∨ ∃ o p' g', O[k]? = some o ∧ SubW O k p' g' ∧ p = p' + cost o ∧ g = orI g' o.2
theorem SubW.way : ∀ {k : Nat} {p g : Int}, SubW O k p g → Way O p g
  | 0, _, _, h => by obtain ⟨rfl, rfl⟩ := h; exact .nil
  | k + 1, p, g, h => by
    rcases h with h | ⟨o, p', g', ho, h, rfl, rfl⟩
    · exact SubW.way h
    · exact .more o (SubW.way h) (List.mem_of_getElem? ho)
theorem SubW.more (H : OffOk O) : ∀ {k : Nat} {p g : Int} {i : Nat} {o : Offer}, SubW O k p g → i < k → O[i]? = some o → ∃ p', p' ≤ p + cost o ∧ SubW O k p' (orI g o.2)
  | 0, _, _, _, _, _, hi, _ => absurd hi (Nat.not_lt_zero _)
  | k + 1, p, g, i, o, h, hi, ho => by
    have hc := H.pos o (List.mem_of_getElem? ho)
    have h8 := H.r8 o (List.mem_of_getElem? ho)
    by_cases e : i = k
    · subst e
      rcases h with h | ⟨o', p', g', ho', h, rfl, rfl⟩
      · exact ⟨_, Int.le_refl _, .inr ⟨o, p, g, ho, h, rfl, rfl⟩⟩
      · rw [ho] at ho'; cases ho'
        refine ⟨p' + cost o, by omega, .inr ⟨o, p', g', ho, h, rfl, ?_⟩⟩
        exact or_again (h.way.r8 H) h8
    · rcases h with h | ⟨o', p', g', ho', h, rfl, rfl⟩
      · obtain ⟨q, hq, hs⟩ := SubW.more H h (show i < k by omega) ho
        exact ⟨q, hq, .inl hs⟩
      · obtain ⟨q, hq, hs⟩ := SubW.more H h (show i < k by omega) ho
        refine ⟨q + cost o', by omega, .inr ⟨o', q, _, ho', hs, rfl, ?_⟩⟩
        exact or_swap (h.way.r8 H) (H.r8 o' (List.mem_of_getElem? ho')) h8
theorem SubW.zero : ∀ k, SubW O k 0 0
  | 0 => ⟨rfl, rfl⟩
  | k + 1 => .inl (SubW.zero k)
theorem Way.sub (H : OffOk O) {p g : Int} (h : Way O p g) : ∃ p', p' ≤ p ∧ SubW O O.length p' g := by
  induction h with
  | nil => exact ⟨0, Int.le_refl _, SubW.zero _⟩
  | more o _ ho ih =>
    obtain ⟨q, hq, hs⟩ := ih
    obtain ⟨i, hi⟩ := List.getElem?_of_mem ho
    obtain ⟨q', hq', hs'⟩ := hs.more H (List.getElem?_eq_some_iff.mp hi).1 hi
    exact ⟨q', by omega, hs'⟩
theorem chosen_sub (t : Int) : ∀ k, SubW O k (chosen O t k).1 (chosen O t k).2
  | 0 => ⟨rfl, rfl⟩
  | k + 1 => by
    rw [chosen]
    split
    · exact .inl (chosen_sub t k)
    · rename_i o ho
      split
      · exact .inr ⟨o, _, _, ho, chosen_sub t k, rfl, rfl⟩
      · exact .inl (chosen_sub t k)
theorem bit_eq (t k : Nat) : ((t : Int).fdiv (2 ^ k)).fmod 2 = 1 ↔ t.testBit k = true := by
  rw [Nat.testBit_eq_decide_div_mod_eq, decide_eq_true_eq]
  rw [Int.fdiv_eq_ediv_of_nonneg _ (Int.pow_nonneg (by decide)), Int.fmod_eq_emod_of_nonneg _ (by decide)]
  rw [show (2 : Int) ^ k = ((2 ^ k : Nat) : Int) by simp]
  omega
theorem chosen_add (t m : Nat) : ∀ k, k ≤ m → chosen O ((2 ^ m + t : Nat) : Int) k = chosen O (t : Int) k
  | 0, _ => rfl
  | k + 1, hk => by
    rw [chosen, chosen]
    split
    · exact chosen_add t m k (by omega)
    · have e : (((2 ^ m + t : Nat) : Int).fdiv (2 ^ k)).fmod 2 = 1 ↔ ((t : Int).fdiv (2 ^ k)).fmod 2 = 1 := by
        rw [bit_eq, bit_eq, Nat.testBit_two_pow_add_gt (by omega)]
      rw [chosen_add t m k (by omega)]
      simp only [e]
theorem SubW.chosen : ∀ {k : Nat} {p g : Int}, SubW O k p g → ∃ t : Nat, t < 2 ^ k ∧ Mine.chosen O (t : Int) k = (p, g)
  | 0, _, _, h => by obtain ⟨rfl, rfl⟩ := h; exact ⟨0, by decide, rfl⟩
  | k + 1, p, g, h => by
    rcases h with h | ⟨o, p', g', ho, h, rfl, rfl⟩
    · obtain ⟨t, ht, e⟩ := SubW.chosen h
      refine ⟨t, by rw [Nat.pow_succ]; omega, ?_⟩
      rw [Mine.chosen]
      split
      · exact e
      · rw [if_neg (by rw [bit_eq, Nat.testBit_lt_two_pow ht]; decide)]; exact e
    · obtain ⟨t, ht, e⟩ := SubW.chosen h
      refine ⟨2 ^ k + t, by rw [Nat.pow_succ]; omega, ?_⟩
      rw [Mine.chosen, ho]
      dsimp only
      rw [if_pos (by rw [bit_eq, Nat.testBit_two_pow_add_eq, Nat.testBit_lt_two_pow ht]; rfl), chosen_add t k k (Nat.le_refl _), e]
      rfl
/-- the least price of a set of rights -/
def Best (O : List Offer) (p g : Int) : Prop := Way O p g ∧ ∀ p', Way O p' g → p ≤ p'
theorem getInt_cases (B : List (Int × Int)) (g q : Int) : (getInt B g q = q ∧ ∀ y, (g, y) ∉ B) ∨ (g, getInt B g q) ∈ B := by
  unfold getInt
  cases h : B.find? fun kv => kv.1 = g with
  | none =>
    left
    refine ⟨rfl, fun y hy => ?_⟩
    have := List.find?_eq_none.mp h _ hy
    simp at this
  | some kv =>
    right
    have h1 := List.find?_some h
    have h2 := List.mem_of_find?_eq_some h
    have : kv.1 = g := by simpa using h1
    show (g, kv.2) ∈ B
    rw [← this]; exact h2
theorem putInt_keys {B : List (Int × Int)} {g q : Int} (h : (B.map (·.1)).Nodup) : ((putInt B g q).map (·.1)).Nodup := by
  unfold putInt
  split
  · rw [List.map_map]
    rw [show (B.map ((fun x : Int × Int => x.1) ∘ fun kv : Int × Int => if kv.1 = g then (kv.1, q) else kv)) = B.map (·.1) from List.map_congr_left fun kv _ => by show (if kv.1 = g then (kv.1, q) else kv).1 = kv.1; split <;> rfl]
    exact h
  · rename_i hn
    rw [List.map_append, List.nodup_append]
    refine ⟨h, by simp, fun a ha b hb => ?_⟩
    obtain ⟨kv, hkv, rfl⟩ := List.mem_map.mp ha
    have : b = g := by simpa using hb
    subst this
    intro e
    exact hn (List.any_eq_true.mpr ⟨kv, hkv, by simpa using e⟩)
theorem putInt_mem {B : List (Int × Int)} {g q x y : Int} (h : (x, y) ∈ putInt B g q) : (x ≠ g ∧ (x, y) ∈ B) ∨ (x = g ∧ y = q) := by
  unfold putInt at h
  split at h
  · obtain ⟨kv, hkv, e⟩ := List.mem_map.mp h
    split at e
    · rename_i hk
      cases e
      exact .inr ⟨hk, rfl⟩
    · rename_i hk
      subst e
      exact .inl ⟨hk, hkv⟩
  · rename_i hn
    rcases List.mem_append.mp h with h | h
    · refine .inl ⟨fun e => hn (List.any_eq_true.mpr ⟨_, h, by simpa using e⟩), h⟩
    · have := List.mem_singleton.mp h
      cases this
      exact .inr ⟨rfl, rfl⟩
theorem putInt_has (B : List (Int × Int)) (g q : Int) : (g, q) ∈ putInt B g q := by
  unfold putInt
  split
  · rename_i h
    obtain ⟨kv, hkv, e⟩ := List.any_eq_true.mp h
    have e : kv.1 = g := by simpa using e
    refine List.mem_map.mpr ⟨kv, hkv, ?_⟩
    rw [if_pos e, e]
  · simp
theorem putInt_keep {B : List (Int × Int)} {g q x y : Int} (hx : x ≠ g) (h : (x, y) ∈ B) : (x, y) ∈ putInt B g q := by
  unfold putInt
  split
  · exact List.mem_map.mpr ⟨_, h, if_neg hx⟩
  · exact List.mem_append.mpr (.inl h)
theorem nodup_val {B : List (Int × Int)} (h : (B.map (·.1)).Nodup) {x y y' : Int} (h1 : (x, y) ∈ B) (h2 : (x, y') ∈ B) : y = y' := by
  induction B with
  | nil => cases h1
  | cons b r ih =>
    rw [List.map_cons, List.nodup_cons] at h
    rcases List.mem_cons.mp h1 with e1 | h1
    · rcases List.mem_cons.mp h2 with e2 | h2
      · rw [← e1] at e2; exact (Prod.mk.inj e2).2.symm
      · exact absurd (List.mem_map.mpr ⟨_, h2, by rw [← e1]⟩) h.1
    · rcases List.mem_cons.mp h2 with e2 | h2
      · exact absurd (List.mem_map.mpr ⟨_, h1, by rw [← e2]⟩) h.1
      · exact ih h.2 h1 h2
theorem bestOf_spec : ∀ T : Nat, ((bestOf O T).map (·.1)).Nodup ∧ (∀ x y, (x, y) ∈ bestOf O T → ∃ t : Nat, t < T ∧ chosen O (t : Int) O.length = (y, x)) ∧
    ∀ t : Nat, t < T → ∃ y, ((chosen O (t : Int) O.length).2, y) ∈ bestOf O T ∧ y ≤ (chosen O (t : Int) O.length).1
  | 0 => ⟨.nil, (fun x y h => by cases h), fun t ht => absurd ht (Nat.not_lt_zero _)⟩
  | T + 1 => by
    obtain ⟨h1, h2, h3⟩ := bestOf_spec T
    rw [bestOf, putMin]
    generalize eg : (chosen O (T : Int) O.length).2 = g
    generalize ep : (chosen O (T : Int) O.length).1 = p
    refine ⟨putInt_keys h1, ?_, ?_⟩
    · intro x y h
      rcases putInt_mem h with ⟨_, h⟩ | ⟨rfl, e⟩
      · obtain ⟨t, ht, e⟩ := h2 x y h
        exact ⟨t, by omega, e⟩
      · rcases getInt_cases (bestOf O T) x p with ⟨e1, _⟩ | hm
        · refine ⟨T, by omega, ?_⟩
          rw [e1, Int.min_self] at e
          rw [e, ← eg, ← ep]
        · by_cases hle : p ≤ getInt (bestOf O T) x p
          · refine ⟨T, by omega, ?_⟩
            rw [Int.min_eq_left hle] at e
            rw [e, ← eg, ← ep]
          · rw [Int.min_eq_right (by omega)] at e
            obtain ⟨t, ht, e2⟩ := h2 x _ hm
            exact ⟨t, by omega, by rw [e]; exact e2⟩
    · intro t ht
      by_cases e : t = T
      · subst e
        rw [eg, ep]
        exact ⟨_, putInt_has _ _ _, Int.min_le_left _ _⟩
      · obtain ⟨y, hy, hle⟩ := h3 t (by omega)
        by_cases e : (chosen O (t : Int) O.length).2 = g
        · rw [e] at hy ⊢
          refine ⟨_, putInt_has _ _ _, ?_⟩
          rcases getInt_cases (bestOf O T) g p with ⟨_, hno⟩ | hm
          · exact absurd hy (hno y)
          · have := nodup_val h1 hm hy
            have := Int.min_le_right p (getInt (bestOf O T) g p)
            omega
        · exact ⟨y, putInt_keep e hy, hle⟩
abbrev table (O : List Offer) : List (Int × Int) := bestOf O (2 ^ O.length)
theorem table_iff (H : OffOk O) (p g : Int) : (g, p) ∈ table O ↔ Best O p g := by
  obtain ⟨h1, h2, h3⟩ := bestOf_spec (O := O) (2 ^ O.length)
  have low : ∀ p', Way O p' g → ∃ q, (g, q) ∈ table O ∧ q ≤ p' := by
    intro p' hw
    obtain ⟨q, hq, hs⟩ := hw.sub H
    obtain ⟨t, ht, e⟩ := hs.chosen
    obtain ⟨y, hy, hle⟩ := h3 t ht
    rw [e] at hy hle
    exact ⟨y, hy, by dsimp only at hle; omega⟩
  have isW : ∀ q, (g, q) ∈ table O → Way O q g := by
    intro q hq
    obtain ⟨t, _, e⟩ := h2 g q hq
    have := (chosen_sub (O := O) (t : Int) O.length).way
    rw [e] at this
    exact this
  constructor
  · intro h
    refine ⟨isW p h, fun p' hw => ?_⟩
    obtain ⟨q, hq, hle⟩ := low p' hw
    rw [nodup_val h1 h hq]; exact hle
  · rintro ⟨hw, hmin⟩
    obtain ⟨q, hq, hle⟩ := low p hw
    have := hmin q (isW q hq)
    rw [show p = q by omega]; exact hq
end Mine

end
section -- P6
open PySem PySem.W PyProof.Rows
set_option maxRecDepth 100000
namespace Mine
theorem freshP6 : True := by
  w_top off
  trivial
structure STO {α : Type} (lt : α → α → Bool) : Prop where
  ir : ∀ a, lt a a = false
  tr : ∀ a b c, lt a b = true → lt b c = true → lt a c = true
  tot : ∀ a b, lt a b = false → lt b a = false → a = b
theorem STO.ord {α : Type} {lt : α → α → Bool} (S : STO lt) : LeOrd lt where
  asym a b h := by
    cases e : lt b a with
    | false => rfl
    | true => have := S.tr _ _ _ h e; rw [S.ir] at this; cases this
  tr a b c h1 h2 := by
    cases e : lt c a with
    | false => rfl
    | true =>
      cases e2 : lt a b with
      | true => rw [S.tr _ _ _ e e2] at h2; cases h2
      | false => rw [S.tot _ _ e2 h1] at e; rw [e] at h2; cases h2
def strLt (a b : Str) : Bool := decide (a.cps.toList < b.cps.toList)
def intLt (a b : Int) : Bool := decide (a < b)
def lexB {α β : Type} [DecidableEq α] (l1 : α → α → Bool) (l2 : β → β → Bool) (x y : α × β) : Bool := if x.1 = y.1 then l2 x.2 y.2 else l1 x.1 y.1
theorem sto_int : STO intLt := ⟨fun a => by simp [intLt], fun a b c h1 h2 => by simp only [intLt, decide_eq_true_eq] at *; omega, fun a b h1 h2 => by simp only [intLt, decide_eq_false_iff_not] at *; omega⟩
theorem sto_str : STO strLt := ⟨fun a => by simp [strLt], fun a b c h1 h2 => by simp only [strLt, decide_eq_true_eq] at *; exact List.lt_trans h1 h2, fun a b h1 h2 => by
  simp only [strLt, decide_eq_false_iff_not] at *
  have := List.le_antisymm (List.not_lt.mp h2) (List.not_lt.mp h1)
  cases a; cases b
  exact congrArg Str.mk (Array.toList_inj.mp this)⟩
theorem STO.lex {α β : Type} [DecidableEq α] {l1 : α → α → Bool} {l2 : β → β → Bool} (A : STO l1) (B : STO l2) : STO (lexB l1 l2) where
  ir a := by simp [lexB, B.ir]
  tr a b c h1 h2 := by
    unfold lexB at *
    by_cases e1 : a.1 = b.1
    · rw [if_pos e1] at h1
      by_cases e2 : b.1 = c.1
      · rw [if_pos e2] at h2
        rw [if_pos (e1.trans e2)]; exact B.tr _ _ _ h1 h2
      · rw [if_neg e2] at h2
        rw [if_neg (fun e => e2 (e1.symm.trans e)), e1]; exact h2
    · rw [if_neg e1] at h1
      by_cases e2 : b.1 = c.1
      · rw [if_neg (fun e => e1 (e.trans e2.symm)), ← e2]; exact h1
      · rw [if_neg e2] at h2
        have h3 := A.tr _ _ _ h1 h2
        rw [if_neg (fun e => by rw [e, A.ir] at h3; cases h3)]; exact h3
  tot a b h1 h2 := by
    unfold lexB at *
    by_cases e1 : a.1 = b.1
    · rw [if_pos e1] at h1
      rw [if_pos e1.symm] at h2
      exact Prod.ext e1 (B.tot _ _ h1 h2)
    · rw [if_neg e1] at h1
      rw [if_neg (fun e => e1 e.symm)] at h2
      exact absurd (A.tot _ _ h1 h2) e1
abbrev Row := Int × Str
def rowLt : Row → Row → Bool := lexB intLt strLt
theorem itemLt_eq : itemLt = lexB intLt (lexB strLt (lexB strLt intLt)) := rfl
theorem sto_item : STO itemLt := itemLt_eq ▸ sto_int.lex (sto_str.lex (sto_str.lex sto_int))
theorem sto_row : STO rowLt := sto_int.lex sto_str
theorem row_price {a b : Row} (h : a.1 < b.1) : rowLt a b = true ∧ rowLt b a = false := by
  have e : rowLt a b = true := by
    unfold rowLt lexB; rw [if_neg (by omega)]; exact decide_eq_true h
  exact ⟨e, sto_row.ord.asym _ _ e⟩
theorem row_le {a b : Row} (h : rowLt a b = false) : b.1 ≤ a.1 := by
  by_cases e : a.1 < b.1
  · rw [(row_price e).1] at h; cases h
  · omega
theorem item_row {x y : Item} (h : itemLt x y = false) : rowLt (x.1, x.2.1) (y.1, y.2.1) = false := by
  cases e : rowLt (x.1, x.2.1) (y.1, y.2.1) with
  | false => rfl
  | true =>
    unfold rowLt lexB at e
    rw [itemLt_eq] at h
    unfold lexB at h
    dsimp only at e h
    by_cases e1 : x.1 = y.1
    · rw [if_pos e1] at e h
      by_cases e2 : x.2.1 = y.2.1
      · rw [e2, sto_str.ir] at e; cases e
      · rw [if_neg e2] at h; rw [h] at e; cases e
    · rw [if_neg e1] at e h; rw [h] at e; cases e
theorem nodup_len {α : Type} [DecidableEq α] : ∀ (l m : List α), l.Nodup → (∀ x ∈ l, x ∈ m) → l.length ≤ m.length
  | [], _, _, _ => Nat.zero_le _
  | a :: l, m, h, hs => by
    rw [List.nodup_cons] at h
    have ha := hs a (.head _)
    have := nodup_len l (m.erase a) h.2 fun x hx => (List.mem_erase_of_ne (fun e : x = a => h.1 (e ▸ hx))).mpr (hs x (.tail _ hx))
    rw [List.length_erase_of_mem ha] at this
    have : 0 < m.length := List.length_pos_of_mem ha
    rw [List.length_cons]; omega
theorem sub_of_len {α : Type} [DecidableEq α] {l m : List α} (h : l.Nodup) (hs : ∀ x ∈ l, x ∈ m) (hl : m.length ≤ l.length) : ∀ x ∈ m, x ∈ l := by
  intro x hx
  by_cases e : x ∈ l
  · exact e
  · have := nodup_len (x :: l) m (List.nodup_cons.mpr ⟨e, h⟩) fun y hy => by
      rcases List.mem_cons.mp hy with rfl | hy
      · exact hx
      · exact hs y hy
    rw [List.length_cons] at this; omega
theorem pairwise_nodup {α : Type} {lt : α → α → Bool} (S : STO lt) {l : List α} (h : l.Pairwise fun a b => lt a b = true) : l.Nodup :=
  List.Pairwise.imp (fun {a b} h e => by rw [e, S.ir] at h; cases h) h
theorem sorted_eq {α : Type} {lt : α → α → Bool} (S : STO lt) : ∀ {l m : List α}, l.Pairwise (fun a b => lt a b = true) → m.Pairwise (fun a b => lt a b = true) → (∀ x, x ∈ l ↔ x ∈ m) → l = m
  | [], [], _, _, _ => rfl
  | [], b :: m, _, _, h => absurd ((h b).mpr (.head _)) (by simp)
  | a :: l, [], _, _, h => absurd ((h a).mp (.head _)) (by simp)
  | a :: l, b :: m, h1, h2, h => by
    rw [List.pairwise_cons] at h1 h2
    have e : a = b := by
      rcases List.mem_cons.mp ((h a).mp (.head _)) with e | ha
      · exact e
      · rcases List.mem_cons.mp ((h b).mpr (.head _)) with e | hb
        · exact e.symm
        · have x1 := h1.1 b hb
          have x2 := h2.1 a ha
          have := S.tr _ _ _ x1 x2
          rw [S.ir] at this; cases this
    subst e
    have na : a ∉ l := fun hm => by have := h1.1 a hm; rw [S.ir] at this; cases this
    have nb : a ∉ m := fun hm => by have := h2.1 a hm; rw [S.ir] at this; cases this
    rw [sorted_eq S h1.2 h2.2 fun x => ⟨fun hx => (List.mem_cons.mp ((h x).mp (.tail _ hx))).resolve_left (fun e => na (e ▸ hx)), fun hx => (List.mem_cons.mp ((h x).mpr (.tail _ hx))).resolve_left (fun e => nb (e ▸ hx))⟩]

/-- what the run needs of the offers' names -/
structure OffOk2 (O : List Offer) : Prop extends OffOk O where
  ok : ∀ o ∈ O, PyData.strOk o.1 = true ∧ o.1.length ≤ 2
  six : O.length ≤ 6
def Good (O : List Offer) (n : Nat) (it : Item) : Prop := ∃ g, Way O it.1 g ∧ it.2.1 = listStr g ∧ it.2.2.2 = modeI g ∧ it.1 = (textCost it.2.2.1.cps.toList : Int) ∧ PyData.strOk it.2.2.1 = true ∧ it.2.2.1.length ≤ 2 * n
theorem Good.mono {O : List Offer} {n m : Nat} {it : Item} (h : Good O n it) (hn : n ≤ m) : Good O m it := by
  obtain ⟨g, a1, a2, a3, a4, a5, a6⟩ := h
  exact ⟨g, a1, a2, a3, a4, a5, by omega⟩
theorem next_row {O : List Offer} (H : OffOk2 O) {x : Item} {g : Int} {n : Nat} {o : Offer} (ho : o ∈ O) (a1 : Way O x.1 g) (a3 : x.2.2.2 = modeI g) (a4 : x.1 = (textCost x.2.2.1.cps.toList : Int)) (a5 : PyData.strOk x.2.2.1 = true) (a6 : x.2.2.1.length ≤ 2 * n) :
    (nextItem x o).1 = x.1 + cost o ∧ (nextItem x o).2.1 = listStr (orI g o.2) ∧ Good O (n + 1) (nextItem x o) := by
  have hg := a1.r8 H.toOffOk
  have ho8 := H.r8 o ho
  have e1 : ((textCost (x.2.2.1 ++ o.1).cps.toList : Nat) : Int) = x.1 + cost o := by
    rw [Str.cps_append, Array.toList_append, textCost_append, a4, cost]; push_cast; rfl
  have e0 : (nextItem x o).1 = x.1 + cost o := by
    show (((escStr (x.2.2.1 ++ o.1)).length : Nat) : Int) = _
    rw [escStr_len, e1]
  have e2 : aft x o = modeI (orI g o.2) := by
    show Builtin.bitOr x.2.2.2 _ = _
    rw [a3]; exact mode_or hg ho8
  have e3 : (nextItem x o).2.1 = listStr (orI g o.2) := by
    show fmStr (aft x o) = _
    rw [e2]; exact (list_mode (hg.or ho8)).1
  refine ⟨e0, e3, orI g o.2, ?_, e3, e2, ?_, ?_, ?_⟩
  · rw [e0]; exact .more o a1 ho
  · rw [e0]; exact e1.symm
  · have h2 := (H.ok o ho).1
    unfold PyData.strOk at *
    show (x.2.2.1 ++ o.1).cps.all _ = true
    rw [Str.cps_append, Array.all_append, a5, h2]; rfl
  · have h2 := (H.ok o ho).2
    show (x.2.2.1 ++ o.1).length ≤ _
    rw [str_len] at h2 a6 ⊢
    rw [Str.cps_append, Array.toList_append, List.length_append]; omega
def Cov (its : List Item) (D : List Row) (p g : Int) : Prop := (∃ p', p' ≤ p ∧ (p', listStr g) ∈ D) ∨ ∃ it ∈ its, it.1 ≤ p ∧ it.2.1 = listStr g
structure DInv (O : List Offer) (its : List Item) (D : List Row) : Prop where
  heap : HeapAt itemLt its
  len : its.length ≤ 1 + 6 * D.length
  good : ∀ it ∈ its, Good O D.length it
  best : ∀ d ∈ D, ∃ g, R8 g ∧ d.2 = listStr g ∧ Best O d.1 g
  sorted : D.Pairwise (fun a b => rowLt a b = true)
  nodup : (D.map (·.2)).Nodup
  low : ∀ d ∈ D, ∀ it ∈ its, rowLt (it.1, it.2.1) d = false
  cov0 : Cov its D 0 0
  cov : ∀ p g, R8 g → (p, listStr g) ∈ D → ∀ o ∈ O, Cov its D (p + cost o) (orI g o.2)
theorem r8_mem {g : Int} (h : R8 g) : g ∈ (List.range 8).map (fun i : Nat => (i : Int)) := List.mem_map.mpr ⟨g.toNat, List.mem_range.mpr (by have := h.1; have := h.2; omega), by have := h.1; omega⟩
theorem DInv.eight {O : List Offer} {its : List Item} {D : List Row} (h : DInv O its D) : D.length ≤ 8 := by
  have := nodup_len (D.map (·.2)) (((List.range 8).map (fun i : Nat => (i : Int))).map listStr) h.nodup fun x hx => by
    obtain ⟨d, hd, rfl⟩ := List.mem_map.mp hx
    obtain ⟨g, hg, e, _⟩ := h.best d hd
    exact List.mem_map.mpr ⟨g, r8_mem hg, e.symm⟩
  simpa using this
theorem DInv.front {O : List Offer} (H : OffOk2 O) {its : List Item} {D : List Row} (h : DInv O its D) {p g : Int} (w : Way O p g) : (∃ p', p' ≤ p ∧ (p', listStr g) ∈ D) ∨ ∃ it ∈ its, it.1 ≤ p ∧ rowLt (p, listStr g) (it.1, it.2.1) = false := by
  have cc : ∀ {q q' g}, q' ≤ q → Cov its D q' g → (∃ p', p' ≤ q ∧ (p', listStr g) ∈ D) ∨ ∃ it ∈ its, it.1 ≤ q ∧ rowLt (q, listStr g) (it.1, it.2.1) = false := by
    intro q q' g hq c
    rcases c with ⟨p', hp, hd⟩ | ⟨it, hm, hp, e⟩
    · exact .inl ⟨p', by omega, hd⟩
    · refine .inr ⟨it, hm, by omega, ?_⟩
      by_cases e2 : it.1 = q
      · rw [e, e2]; exact sto_row.ir _
      · exact (row_price (a := (it.1, it.2.1)) (b := (q, listStr g)) (by show it.1 < q; omega)).2
  induction w with
  | nil => exact cc (Int.le_refl _) h.cov0
  | @more p g o w ho ih =>
    have hc := H.pos o ho
    rcases ih with ⟨p', hp, hd⟩ | ⟨it, hm, hp, _⟩
    · exact cc (by omega) (h.cov p' g (w.r8 H.toOffOk) hd o ho)
    · exact .inr ⟨it, hm, by omega, (row_price (a := (it.1, it.2.1)) (b := (p + cost o, listStr (orI g o.2))) (by show it.1 < p + cost o; omega)).2⟩
def mu (its : List Item) (D : List Row) : Nat := (8 - D.length) * 7 + its.length
theorem DInv.start (O : List Offer) : DInv O [(0, fmStr 33060, Str.empty, 33060)] [] where
  heap j a b hj ha hb := by
    obtain ⟨j, rfl⟩ : ∃ i, j = i + 1 := ⟨j - 1, by omega⟩
    simp at ha
  len := by simp
  good it hit := by
    have := List.mem_singleton.mp hit
    subst this
    exact ⟨0, .nil, (list_mode (a := 0) ⟨by decide, by decide⟩).1, by decide, by decide, by decide +kernel, by decide⟩
  best d hd := nomatch hd
  sorted := .nil
  nodup := .nil
  low d hd := nomatch hd
  cov0 := .inr ⟨_, .head _, Int.le_refl _, (list_mode (a := 0) ⟨by decide, by decide⟩).1⟩
  cov p g hg hd := nomatch hd
theorem DInv.step {O : List Offer} (H : OffOk2 O) {init : List Item} {last : Item} {D : List Row} (h : DInv O (init ++ [last]) D) :
    DInv O (runStep O init last D).1 (runStep O init last D).2 ∧ mu (runStep O init last D).1 (runStep O init last D).2 < mu (init ++ [last]) D := by
  obtain ⟨s1, s2, s3⟩ := hpop_spec sto_item.ord sto_item.ir init last h.heap
  have sl := hpop_length itemLt init last
  unfold runStep
  generalize hpop itemLt init last = r at s1 s2 s3 sl ⊢
  obtain ⟨x, its⟩ := r
  dsimp only at s1 s2 s3 sl ⊢
  have hx : x ∈ init ++ [last] := (s3 x).mpr (.inl rfl)
  have hsub : ∀ z ∈ its, z ∈ init ++ [last] := fun z hz => (s3 z).mpr (.inr hz)
  have hL : (init ++ [last]).length = its.length + 1 := by simp [sl]
  have hlen := h.len
  have h8 := h.eight
  obtain ⟨g, a1, a2, a3, a4, a5, a6⟩ := h.good x hx
  have hg := a1.r8 H.toOffOk
  split
  · show DInv O its D ∧ mu its D < mu (init ++ [last]) D
    rename_i hin
    obtain ⟨d, hd, ed⟩ := List.mem_map.mp hin
    have cv : ∀ {q k}, Cov (init ++ [last]) D q k → Cov its D q k := by
      intro q k c
      rcases c with c | ⟨it, hm, hp, e⟩
      · exact .inl c
      · rcases (s3 it).mp hm with rfl | hm
        · refine .inl ⟨d.1, ?_, ?_⟩
          · have := row_le (h.low d hd it hx)
            dsimp only at this
            omega
          · rw [← e, ← ed]; exact hd
        · exact .inr ⟨it, hm, hp, e⟩
    refine ⟨⟨s1, by omega, fun it hit => h.good it (hsub it hit), h.best, h.sorted, h.nodup, fun d hd it hit => h.low d hd it (hsub it hit), cv h.cov0, fun p k hk hd o ho => cv (h.cov p k hk hd o ho)⟩, ?_⟩
    unfold mu; omega
  · show DInv O (pushAll x O its) (D ++ [(x.1, x.2.1)]) ∧ mu (pushAll x O its) (D ++ [(x.1, x.2.1)]) < mu (init ++ [last]) D
    rename_i hnin
    have hnew : ∀ d ∈ D, d.2 ≠ x.2.1 := fun d hd e => hnin (List.mem_map.mpr ⟨d, hd, e⟩)
    have hbest : Best O x.1 g := by
      refine ⟨a1, fun p' w => ?_⟩
      rcases h.front H w with ⟨q, _, hd⟩ | ⟨it, hm, hp, _⟩
      · exact absurd a2.symm (hnew _ hd)
      · have := row_le (item_row (s2 it hm))
        dsimp only at this
        omega
    have hD8 : D.length < 8 := by
      have := nodup_len ((D ++ [(x.1, x.2.1)]).map (·.2)) (((List.range 8).map (fun i : Nat => (i : Int))).map listStr) ?_ ?_
      · simp at this; omega
      · rw [List.map_append, List.nodup_append]
        refine ⟨h.nodup, by simp, fun a ha b hb => ?_⟩
        obtain ⟨d, hd, rfl⟩ := List.mem_map.mp ha
        rw [List.mem_singleton.mp hb]
        exact hnew d hd
      · intro y hy
        obtain ⟨d, hd, rfl⟩ := List.mem_map.mp hy
        rcases List.mem_append.mp hd with hd | hd
        · obtain ⟨k, hk, e, _⟩ := h.best d hd
          exact List.mem_map.mpr ⟨k, r8_mem hk, e.symm⟩
        · rw [List.mem_singleton.mp hd]
          exact List.mem_map.mpr ⟨g, r8_mem hg, a2.symm⟩
    have hpl := pushAll_length x O its
    have hsix := H.six
    have hDl : (D ++ [(x.1, x.2.1)]).length = D.length + 1 := by simp
    have cv : ∀ {q k}, Cov (init ++ [last]) D q k → Cov (pushAll x O its) (D ++ [(x.1, x.2.1)]) q k := by
      intro q k c
      rcases c with ⟨p', hp, hd⟩ | ⟨it, hm, hp, e⟩
      · exact .inl ⟨p', hp, List.mem_append.mpr (.inl hd)⟩
      · rcases (s3 it).mp hm with rfl | hm
        · exact .inl ⟨it.1, hp, List.mem_append.mpr (.inr (by rw [← e]; exact .head _))⟩
        · exact .inr ⟨it, (pushAll_has x it O its).mpr (.inl hm), hp, e⟩
    have hnext := fun o (ho : o ∈ O) => next_row H ho a1 a3 a4 a5 a6
    refine ⟨⟨pushAll_heap x sto_item.ord O its s1, by omega, ?_, ?_, ?_, ?_, ?_, cv h.cov0, ?_⟩, ?_⟩
    · intro it hit
      rw [hDl]
      rcases (pushAll_has x it O its).mp hit with hit | ⟨o, ho, rfl⟩
      · exact (h.good it (hsub it hit)).mono (by omega)
      · exact (hnext o ho).2.2
    · intro d hd
      rcases List.mem_append.mp hd with hd | hd
      · exact h.best d hd
      · rw [List.mem_singleton.mp hd]
        exact ⟨g, hg, a2, hbest⟩
    · rw [List.pairwise_append]
      refine ⟨h.sorted, List.pairwise_singleton _ _, fun d hd b hb => ?_⟩
      rw [List.mem_singleton.mp hb]
      cases e : rowLt d (x.1, x.2.1) with
      | true => rfl
      | false =>
        have := sto_row.tot _ _ e (h.low d hd x hx)
        exact absurd (congrArg (·.2) this) (hnew d hd)
    · rw [List.map_append, List.nodup_append]
      refine ⟨h.nodup, by simp, fun a ha b hb => ?_⟩
      obtain ⟨d, hd, rfl⟩ := List.mem_map.mp ha
      rw [List.mem_singleton.mp hb]
      exact hnew d hd
    · have lowx : ∀ it ∈ pushAll x O its, rowLt (it.1, it.2.1) (x.1, x.2.1) = false := by
        intro it hit
        rcases (pushAll_has x it O its).mp hit with hit | ⟨o, ho, rfl⟩
        · exact item_row (s2 it (hsub it hit))
        · have e := (hnext o ho).1
          have := H.pos o ho
          exact (row_price (a := (x.1, x.2.1)) (b := ((nextItem x o).1, (nextItem x o).2.1)) (by show x.1 < (nextItem x o).1; omega)).2
      intro d hd it hit
      rcases List.mem_append.mp hd with hd | hd
      · exact sto_row.ord.tr _ _ _ (h.low d hd x hx) (lowx it hit)
      · rw [List.mem_singleton.mp hd]; exact lowx it hit
    · intro p k hk hd o ho
      rcases List.mem_append.mp hd with hd | hd
      · exact cv (h.cov p k hk hd o ho)
      · have e := List.mem_singleton.mp hd
        have e1 : p = x.1 := congrArg (·.1) e
        have e2 : listStr k = x.2.1 := congrArg (·.2) e
        have e3 : k = g := list_inj hk hg (e2.trans a2)
        subst e1 e3
        refine .inr ⟨nextItem x o, (pushAll_has x _ O its).mpr (.inr ⟨o, ho, rfl⟩), ?_, (hnext o ho).2.1⟩
        rw [(hnext o ho).1]; exact Int.le_refl _
    · unfold mu; rw [hDl, hpl]; omega
theorem runInv {O : List Offer} (H : OffOk2 O) : RunInv O (DInv O) mu where
  start := DInv.start O
  ok its D h := by
    have h8 := h.eight
    refine ⟨by have := h.len; omega, h8, fun it hit => ?_, fun d hd => ?_⟩
    · obtain ⟨g, a1, a2, a3, a4, a5, a6⟩ := h.good it hit
      refine ⟨⟨?_, a5⟩, by omega⟩
      rw [a2]; exact (list_mode (a1.r8 H.toOffOk)).2.1
    · obtain ⟨g, hg, e, _⟩ := h.best d hd
      rw [e]; exact (list_mode hg).2.1
  step init last D h := h.step H
abbrev rows (O : List Offer) : List Row := (table O).map fun b => (b.2, listStr b.1)
theorem table_r8 {O : List Offer} (H : OffOk O) {g p : Int} (h : (g, p) ∈ table O) : R8 g := ((table_iff H p g).mp h).1.r8 H
theorem DInv.fin {O : List Offer} (H : OffOk2 O) {D : List Row} (h : DInv O [] D) (d : Row) : d ∈ D ↔ d ∈ rows O := by
  constructor
  · intro hd
    obtain ⟨g, hg, e, hb⟩ := h.best d hd
    refine List.mem_map.mpr ⟨(g, d.1), (table_iff H.toOffOk _ _).mpr hb, ?_⟩
    exact Prod.ext rfl e.symm
  · intro hd
    obtain ⟨⟨g, p⟩, hb, rfl⟩ := List.mem_map.mp hd
    have hB := (table_iff H.toOffOk _ _).mp hb
    have hg := hB.1.r8 H.toOffOk
    rcases h.front H hB.1 with ⟨p', hp, hd⟩ | ⟨it, hm, _⟩
    · obtain ⟨k, hk, e, hb2⟩ := h.best _ hd
      have := list_inj hg hk e
      subst this
      have := hB.2 p' hb2.1
      have e2 : p' = p := by omega
      rw [e2] at hd; exact hd
    · cases hm
theorem rows_nodup {O : List Offer} (H : OffOk O) : (rows O).Nodup := by
  have h1 := (bestOf_spec (O := O) (2 ^ O.length)).1
  rw [List.Nodup, List.pairwise_map] at h1 ⊢
  refine List.Pairwise.imp_of_mem (fun {a b} ha hb hne e => ?_) h1
  exact hne (list_inj (table_r8 H (p := a.2) ha) (table_r8 H (p := b.2) hb) (congrArg (·.2) e))
theorem rows_len {O : List Offer} (H : OffOk O) : (rows O).length ≤ 8 := by
  have := nodup_len ((table O).map (·.1)) ((List.range 8).map (fun i : Nat => (i : Int))) (bestOf_spec (O := O) (2 ^ O.length)).1 fun x hx => by
    obtain ⟨⟨g, p⟩, hb, rfl⟩ := List.mem_map.mp hx
    exact r8_mem (table_r8 H hb)
  simpa using this
def rowKey (T : List Row) (i j : Nat) : Bool := rowLt (T.getD i (0, Str.empty)) (T.getD j (0, Str.empty))
theorem getD_inj {T : List Row} (h : T.Nodup) {a b : Nat} (ha : a < T.length) (hb : b < T.length) (e : T.getD a (0, Str.empty) = T.getD b (0, Str.empty)) : a = b := by
  rw [List.getD_eq_getElem?_getD, List.getD_eq_getElem?_getD, List.getElem?_eq_getElem ha, List.getElem?_eq_getElem hb] at e
  exact (List.getElem_inj h).mp e
theorem rowKey_ord {T : List Row} (h : T.Nodup) : KOrd T.length (rowKey T) where
  tr a b c h1 h2 := sto_row.tr _ _ _ h1 h2
  tot a b ha hb hne h1 := by
    cases e : rowKey T b a with
    | true => rfl
    | false => exact absurd (getD_inj h ha hb (sto_row.tot _ _ h1 e)) hne
theorem sort_rows {T D : List Row} {p : Array Nat} (hD : D.Pairwise fun a b => rowLt a b = true) (hm : ∀ d, d ∈ D ↔ d ∈ T) (hp : PermN T.length p) (hu : UpTo (rowKey T) p T.length) : (p.toList.map fun i => T.getD i (0, Str.empty)) = D := by
  have hsz : p.toList.length = T.length := by simpa using hp.size
  have hgd : ∀ (i : Nat) (hi : i < p.toList.length), gd p i = p.toList[i] := fun i hi => gd_eq (by rw [← Array.getElem?_toList, List.getElem?_eq_getElem hi])
  have hpw : (p.toList.map fun i => T.getD i (0, Str.empty)).Pairwise fun a b => rowLt a b = true := by
    rw [List.pairwise_map, List.pairwise_iff_getElem]
    intro i j hi hj hij
    have := hu i j hij (by omega)
    rw [hgd i hi, hgd j hj] at this
    exact this
  refine sorted_eq sto_row hpw hD fun d => ?_
  have hlt : ∀ i ∈ p.toList, i < T.length := by
    intro i hi
    obtain ⟨k, hk⟩ := List.getElem?_of_mem hi
    have := hp.lt k
    rw [gd_eq (by rw [← Array.getElem?_toList]; exact hk)] at this
    exact this
  have hnd : p.toList.Nodup := by
    rw [List.Nodup, List.pairwise_iff_getElem]
    intro i j hi hj hij e
    have := hp.inj i j (by omega) (by omega) (by rw [hgd i hi, hgd j hj]; exact e)
    omega
  have hall := sub_of_len hnd (m := List.range T.length) (fun i hi => List.mem_range.mpr (hlt i hi)) (by rw [List.length_range, hsz]; exact Nat.le_refl _)
  rw [hm d]
  constructor
  · intro h
    obtain ⟨i, hi, rfl⟩ := List.mem_map.mp h
    rw [List.getD_eq_getElem?_getD, List.getElem?_eq_getElem (hlt i hi)]
    exact List.getElem_mem _
  · intro h
    obtain ⟨i, hi⟩ := List.getElem?_of_mem h
    refine List.mem_map.mpr ⟨i, hall i (List.mem_range.mpr (List.getElem?_eq_some_iff.mp hi).1), ?_⟩
    rw [List.getD_eq_getElem?_getD, hi]; rfl
end Mine

end
section -- P7
open PySem PySem.W PyProof.Rows
set_option maxRecDepth 100000
namespace Mine
theorem freshP7 : True := by
  w_top off
  trivial
def sign4 (i : Int) : Str := Txt.item (Str.ofString "a&<>") i
abbrev isSign (c : Nat) : Prop := c = 97 ∨ c = 38 ∨ c = 60 ∨ c = 62
theorem sign_all : ∀ i : _root_.Fin 4, (sign4 (i.val : Nat)).cps.toList.length = 1 ∧ (∀ c ∈ (sign4 (i.val : Nat)).cps.toList, isSign c) := by decide +kernel
theorem fmod_fin (x : Int) (n : Nat) (hn : 0 < n) : ∃ k : _root_.Fin n, x.fmod n = ((k.val : Nat) : Int) := by
  have h1 := Int.fmod_nonneg_of_pos x (b := (n : Int)) (by omega)
  have h2 := Int.fmod_lt_of_pos x (b := (n : Int)) (by omega)
  exact ⟨⟨(x.fmod n).toNat, by omega⟩, by show _ = (((x.fmod n).toNat : Nat) : Int); omega⟩
theorem off_text (x : Int) : (offOf x).1.cps.toList.length = 2 ∧ ∀ c ∈ (offOf x).1.cps.toList, isSign c := by
  obtain ⟨i, hi⟩ := fmod_fin x 4 (by decide)
  obtain ⟨j, hj⟩ := fmod_fin (x.fdiv 3) 4 (by decide)
  have e : (offOf x).1 = sign4 (i.val : Nat) ++ sign4 (j.val : Nat) := by
    unfold offOf sign4
    rw [← hi, ← hj]; rfl
  rw [e, Str.cps_append, Array.toList_append, List.length_append, (sign_all i).1, (sign_all j).1]
  refine ⟨rfl, fun c hc => ?_⟩
  rcases List.mem_append.mp hc with hc | hc
  · exact (sign_all i).2 c hc
  · exact (sign_all j).2 c hc
theorem off_r8 (x : Int) : R8 (offOf x).2 := ⟨Int.fmod_nonneg_of_pos _ (by decide), Int.fmod_lt_of_pos _ (by decide)⟩
theorem cost_pos (l : List Nat) (h : 0 < l.length) : 0 < textCost l := by
  cases l with
  | nil => cases h
  | cons c r =>
    have : 0 < signCost c := by unfold signCost; repeat' split
                                all_goals decide
    show 0 < signCost c + textCost r
    omega
theorem off_ok2 (xs : List Int) (h : xs.length ≤ 6) : OffOk2 (xs.map offOf) where
  r8 o ho := by obtain ⟨x, _, rfl⟩ := List.mem_map.mp ho; exact off_r8 x
  pos o ho := by
    obtain ⟨x, _, rfl⟩ := List.mem_map.mp ho
    have := cost_pos (offOf x).1.cps.toList (by rw [(off_text x).1]; decide)
    unfold cost; omega
  ok o ho := by
    obtain ⟨x, _, rfl⟩ := List.mem_map.mp ho
    refine ⟨?_, by rw [str_len, (off_text x).1]; exact Nat.le_refl _⟩
    unfold PyData.strOk
    rw [← Array.all_toList, List.all_eq_true]
    intro c hc
    rcases (off_text x).2 c hc with rfl | rfl | rfl | rfl <;> decide
  six := by rw [List.length_map]; exact h
theorem rows_two (xs : List Int) (h : ([9, 6] ++ xs).length ≤ 6) : 2 ≤ (rows (([9, 6] ++ xs).map offOf)).length := by
  have H := (off_ok2 _ h).toOffOk
  have k0 : (0 : Int) ∈ (table (([9, 6] ++ xs).map offOf)).map (·.1) := by
    obtain ⟨q, _, hs⟩ := (Way.nil (O := ([9, 6] ++ xs).map offOf)).sub H
    obtain ⟨t, ht, e⟩ := hs.chosen
    obtain ⟨y, hy, _⟩ := (bestOf_spec (O := ([9, 6] ++ xs).map offOf) _).2.2 t ht
    rw [e] at hy
    exact List.mem_map.mpr ⟨_, hy, rfl⟩
  have k4 : (4 : Int) ∈ (table (([9, 6] ++ xs).map offOf)).map (·.1) := by
    have w : Way (([9, 6] ++ xs).map offOf) (0 + cost (offOf 9)) 4 := (Way.more (O := ([9, 6] ++ xs).map offOf) (offOf 9) .nil (.head _) : Way _ _ (orI 0 (offOf 9).2))
    obtain ⟨q, _, hs⟩ := w.sub H
    obtain ⟨t, ht, e⟩ := hs.chosen
    obtain ⟨y, hy, _⟩ := (bestOf_spec (O := ([9, 6] ++ xs).map offOf) _).2.2 t ht
    rw [e] at hy
    exact List.mem_map.mpr ⟨_, hy, rfl⟩
  have := nodup_len [(0 : Int), 4] ((table (([9, 6] ++ xs).map offOf)).map (·.1)) (by decide) fun x hx => by
    rcases List.mem_cons.mp hx with rfl | hx
    · exact k0
    · rw [List.mem_singleton.mp hx]; exact k4
  simpa using this
end Mine

end
section -- Q1
open PySem PySem.W PyProof.Rows
set_option maxRecDepth 100000
namespace Mine
theorem freshQ1 : True := by
  w_top off
  trivial
def rowDat (d : Row) : Dat := .tuple [.int d.1, .str d.2]
section
variable {prog : Program} {w : World} {A : Around} {E : Value → Shared → Prop} {s : Shared} {h₀ : Heap} {L : Addr} {m : Str → Option Value} {news : List (Addr × Obj)}
theorem rowDat_in {v : Value} {d : Row} (h : RowIn news v d) : DatIn news v (rowDat d) := by
  obtain ⟨a, t1, t2, n, rfl, hm⟩ := h
  exact .tuple (vs := [.int d.1 t1, .str d.2 t2]) hm (.cons (.int _ _) (.cons (.str _ _) .nil))
theorem rowDat_all {α : Type} (f : α → Value) (g : α → Row) : ∀ (l : List α), (∀ i ∈ l, RowIn news (f i) (g i)) → DatAll news (l.map f) ((l.map g).map rowDat)
  | [], _ => .nil
  | i :: l, h => .cons (rowDat_in (h i (.head _))) (rowDat_all f g l fun j hj => h j (.tail _ hj))
theorem katTups_of {h : Heap} (N : News h₀ L h news) : ∀ (vs : List Value) (T : List Row), (∀ (j : Nat) v, vs[j]? = some v → ∃ d, T[j]? = some d ∧ RowIn news v d) → ∃ fs, KatTups h vs fs ∧ fs.length = vs.length ∧ ∀ v ∈ fs, ∃ n t, v = .int n t
  | [], _, _ => ⟨[], .nil, rfl, fun v hv => nomatch hv⟩
  | v :: vs, T, hv => by
    obtain ⟨d, hd, a, t1, t2, n, rfl, hm⟩ := hv 0 v rfl
    obtain ⟨fs, h1, h2, h3⟩ := katTups_of N vs T.tail fun j v' hj => by
      obtain ⟨d', hd', hr⟩ := hv (j + 1) v' hj
      refine ⟨d', ?_, hr⟩
      cases T with
      | nil => cases hd'
      | cons _ _ => exact hd'
    refine ⟨.int d.1 t1 :: fs, .cons (N _ hm).1 rfl rfl rfl h1, by simp [h2], ?_⟩
    intro x hx
    rcases List.mem_cons.mp hx with rfl | hx
    · exact ⟨_, _, rfl⟩
    · exact h3 x hx
theorem row_ask {vs : List Value} {T : List Row} {i j : Nat} {C : Bool → Shared → Prop} (N : News h₀ L s.heap news) (hi : RowIn news (vs.getD i Value.none) (T.getD i (0, Str.empty))) (hj : RowIn news (vs.getD j Value.none) (T.getD j (0, Str.empty))) (h : C (rowKey T i j) s) : kas_ask prog w A (tuples' true) vs i j C s := by
  unfold kas_ask
  unfold rowKey at h
  obtain ⟨a, t1, t2, n, ea, hma⟩ := hi
  obtain ⟨b, u1, u2, k, eb, hmb⟩ := hj
  rw [ea, eb]
  generalize T.getD i (0, Str.empty) = x at *
  generalize T.getD j (0, Str.empty) = y at *
  refine kat_lt (N _ hma).1 rfl (N _ hmb).1 rfl ?_
  refine kat_cons (wpAny_eqBool_int ?_)
  unfold rowLt lexB at h
  by_cases e1 : x.1 = y.1
  · rw [if_pos e1] at h
    rw [e1, show (y.1 == y.1) = true from BEq.rfl]
    refine kat_yes (kat_cons (wpAny_eqBool_str ?_))
    by_cases e2 : x.2 = y.2
    · rw [decide_eq_true e2]
      refine kat_yes (kat_nil ?_)
      rw [e2, sto_str.ir] at h
      exact h
    · rw [decide_eq_false e2]
      exact kat_no (kat_one _ _ (lt_str h))
  · rw [if_neg e1] at h
    rw [beq_eq_false_iff_ne.mpr e1]
    exact kat_no (oneLt_int h)
theorem sortedRows_t {l : Addr} {n0 : Nat} {vs : List Value} {T : List Row} {Q : Value → Shared → Prop} (F : Fr h₀ L s.heap m) (N : News h₀ L s.heap news) (hm : (l, listOf vs.toArray n0) ∈ news) (hlen : vs.length = T.length)
    (hv : ∀ (j : Nat) v, vs[j]? = some v → ∃ d, T[j]? = some d ∧ RowIn news v d) (hT : T.Nodup) (h2 : 2 ≤ T.length) (h64 : T.length < 64)
    (h : ∀ D p c h', Fr h₀ L h' m → News h₀ L h' ((D, listOf (List.toArray (p.toList.map fun i => vs.getD i Value.none)) c) :: news) → PermN T.length p → UpTo (rowKey T) p T.length → DatAll news (p.toList.map fun i => vs.getD i Value.none) ((p.toList.map fun i => T.getD i (0, Str.empty)).map rowDat) → Q (.ref D) { s with heap := h' }) :
    wpAny (model prog w) A (call (.builtin "sorted") [.ref l]) Q E s := by
  have hrow : ∀ i, i < T.length → RowIn news (vs.getD i Value.none) (T.getD i (0, Str.empty)) := by
    intro i hi
    have hi' : i < vs.length := by omega
    obtain ⟨d, hd, hr⟩ := hv i _ (List.getElem?_eq_getElem hi')
    rw [List.getD_eq_getElem?_getD, List.getD_eq_getElem?_getD, List.getElem?_eq_getElem hi', hd]
    exact hr
  refine kat_sorted F N ⟨_, (N _ hm).1, rfl, _, rfl⟩ (by omega) (by omega) fun D e1 h' F' N' hlt => ?_
  have N2 : News h₀ L h' news := fun p hp => N' p (.tail _ hp)
  obtain ⟨fs, k1, k2, k3⟩ := katTups_of N2 vs T hv
  refine kat_kind (T := .type "int") k1 (by omega) (fun v hv => ?_) rfl ?_
  · obtain ⟨n, t, rfl⟩ := k3 v hv
    exact Looks.of_pure rfl
  · rw [hlen]
    refine kasWp_of (n := T.length) (lt := rowKey T) (P := fun p => PermN T.length p ∧ UpTo (rowKey T) p T.length) (fun i j C hi hj hC => row_ask N2 (hrow i hi) (hrow j hj) hC) ?_ _ (kasAll_sort (rowKey_ord hT) h2)
    rintro p ⟨hp, hu⟩
    refine KasFin.intro F' N' (.head ?_) fun h'' c F'' N'' => h D p c h'' F'' N'' hp hu (rowDat_all _ _ _ fun i hi => hrow i ?_)
    · intro q hq; exact Nat.ne_of_lt (hlt q hq)
    · obtain ⟨k, hk⟩ := List.getElem?_of_mem hi
      have := hp.lt k
      rw [gd_eq (by rw [← Array.getElem?_toList]; exact hk)] at this
      exact this
end
end Mine

end
section -- S10
open PySem PySem.W PyProof.Rows
set_option maxRecDepth 100000
set_option maxHeartbeats 4000000
namespace Mine
theorem freshS10 : True := by
  w_top off
  trivial
local macro_rules | `(tactic| walk_at "m_stop") => `(tactic| first
  | with_reducible show wpAny _ _ (eval (Expr.ListComp _ _ _ _) _) _ _ _
  | with_reducible show wpAny _ _ (call (Value.builtin "sorted") _ _) _ _ _
  | with_reducible show wpAny _ _ (call (Value.ref 108) _ _) _ _ _
  | with_reducible show wpAny _ _ (call (Value.ref 113) _ _) _ _ _
  | with_reducible show wpAny _ _ (call (Value.ref 118) _ _) _ _ _
  | with_reducible show wpAny _ _ (call (Value.ref 125) _ _) _ _ _
  | with_reducible show wpAny _ _ (subscriptTail _ _ (Value.ref _) (Value.int _ _)) _ _ _
  | with_reducible show wpAny _ _ (compareOp _ (Value.ref _) (Value.ref _)) _ _ _)
local macro_rules | `(tactic| walk_at "m_steps") => `(tactic| repeat' (first | ((fail_if_success (walk_at "m_stop")); (first | (k_unfold; (try dsimp only)) | (k_end; wrow_close) | walk1 | (dsimp only; walk1) | (leave1; (try dsimp only))))))
theorem OfferIn.filter {h₀ h : Heap} {L C : Addr} {oc : Obj} {v0 : Option Value} {extra : List (Addr × Obj)} {v : Value} {o : Offer} (N : News h₀ L h extra) (hC : (C, oc) ∈ extra) (hd : oc.data = .cell v0) (x : OfferIn extra v o) : OfferIn (extra.filter fun p => p.1 != C) v o := by
  obtain ⟨a, t1, t2, n, e, hm⟩ := x
  refine ⟨a, t1, t2, n, e, List.mem_filter.mpr ⟨hm, ?_⟩⟩
  have : a ≠ C := by
    rintro rfl
    have h1 := (N _ hm).1
    have h2 := (N _ hC).1
    have h3 : _ = oc := Option.some.inj (h1.symm.trans h2)
    rw [← h3] at hd
    cases hd
  simpa using this
theorem IntVals.at {kvs : List (Int × Value)} {B : List (Int × Int)} (h : IntVals kvs B) (hnd : (B.map (·.1)).Nodup) {i : Nat} {k : Int} {vk : Value} (hk : kvs[i]? = some (k, vk)) : ∃ p t, B[i]? = some (k, p) ∧ valueAt kvs k = some (.int p t) := by
  have h1 : ∃ p, B[i]? = some (k, p) := by
    clear hnd
    induction h generalizing i with
    | nil => simp at hk
    | cons k' p t r ih =>
      cases i with
      | zero => simp at hk; exact ⟨p, by simp [hk.1]⟩
      | succ i => simp at hk ⊢; exact ih hk
  obtain ⟨p, hp⟩ := h1
  have hm := List.mem_of_getElem? hp
  rcases h.find k with ⟨_, h2⟩ | ⟨q, t, h2, h3⟩
  · exact absurd (List.find?_eq_none.mp h2 _ hm) (by simp)
  · cases hf : B.find? (fun kv => kv.1 = k) with
    | none => rw [hf] at h3; cases h3
    | some kv =>
      rw [hf] at h3
      have e1 : kv.1 = k := by simpa using List.find?_some hf
      have e2 : kv.2 = q := Option.some.inj h3
      have := nodup_val hnd hm (by rw [← e1]; exact List.mem_of_find?_eq_some hf)
      exact ⟨p, t, hp, by rw [this, e2]; exact h2⟩
theorem t0 : PySem.Challenge.rw_oh0024_01.Holds := Mine.hd (by
  k_go0
  all_goals try k_fold
  walk_at "m_steps"
  rename_i w s0 s1 mg mb G Y fa o pm doc ho hg KX XM V GL TT BT TE TW a1 a2 MM a3 a4 hcd scr hs hlay0 hLy hr hl2 a5 a6 a7 a8 a9 hLs ra w1 r0 hI hr2 hcond hcond2 K0 hDf h1 tk1 wc hwc X0 l9 h3 l3 D4 ws4 h4 hI4 hC4 hL4 l4 D5 ws5 h5 F5 N5 hI5 l5
  obtain ⟨xs, hI5, hxs⟩ : ∃ xs : List Int, IntsAre ws5 ([9, 6] ++ xs) ∧ xs.length ≤ 4 := ⟨_, hI5, by rw [hC4]; omega⟩
  have hlen5 : ws5.length ≤ 6 := by have := hI5.length; simp at this; omega
  refine offers_t (by assumption) F5 (by assumption) (by assumption) rfl N5 (.head _) hI5 hlen5 (by decide) (by decide) ?_
  intro ol os no extra h6 tk6 F6 N6 hsub hoffol hosl hof
  have hCm : (s1.heap.objs.size + 1, wc) ∈ extra := hsub _ (.tail _ (.tail _ (.tail _ (.head _))))
  have hof' : ∀ (i : Nat) v, os[i]? = some v → ∃ o, (([9, 6] ++ xs).map offOf)[i]? = some o ∧ OfferIn (extra.filter fun p => p.1 != s1.heap.objs.size + 1) v o := fun i v hv => let ⟨o, a, b⟩ := hof i v hv; ⟨o, a, b.filter (newsSub N6 fun p hp => .tail _ hp) hCm hwc⟩
  have hCne := hoffol _ hCm
  have N7 := newsSub N6 (l' := (s1.heap.objs.size + 1, wc) :: (ol, listOf os.toArray no) :: (extra.filter fun p => p.1 != s1.heap.objs.size + 1)) (by
    intro p hp
    simp only [List.mem_cons] at hp ⊢
    rcases hp with h | h | h
    · exact .inr (h ▸ hCm)
    · exact .inl h
    · exact .inr (List.mem_filter.mp h).1)
  have hexC : ∀ p ∈ (extra.filter fun p => p.1 != s1.heap.objs.size + 1), p.1 ≠ s1.heap.objs.size + 1 := fun p hp => by simpa using (List.mem_filter.mp hp).2
  clear N6 hof hsub
  generalize (extra.filter fun p => p.1 != s1.heap.objs.size + 1) = ex at N7 hof' hexC
  walk_at "m_steps"
  rename_i h7 F8 N8
  have hOlen : os.length = (([9, 6] ++ xs).map offOf).length := by have := hI5.length; simp at this ⊢; omega
  have hO6 : (([9, 6] ++ xs).map offOf).length ≤ 6 := by simp; omega
  refine best_t (O := ([9, 6] ++ xs).map offOf) (by assumption) F8 (by assumption) (by assumption) rfl N8 (.tail _ (.head _)) hOlen (fun i v hv => let ⟨o, a, b⟩ := hof' i v hv; ⟨o, a, b.mono fun p hp => .tail _ (.tail _ hp)⟩) hO6 (by intro o ho; obtain ⟨x, _, rfl⟩ := List.mem_map.mp ho; exact ⟨(off_text x).2, by rw [str_len, (off_text x).1]; decide, off_r8 x⟩) (by decide) (by decide) ?_
  intro bd od kvs h8 tk8 F9 N9 hdict hvals lo hbd
  refine storeX_C F9 N9 (by rfl) (.tail ?_ (.head ?_)) hwc ?_
  · exact Nat.ne_of_gt (hbd _ (.head _))
  · intro p hp
    rcases List.mem_cons.mp hp with rfl | hp
    · exact hCne.symm
    · exact hexC p hp
  intro h9 oc F10 N10 hoc
  walk_at "m_steps"
  have hx6 : ([9, 6] ++ xs).length ≤ 6 := by simp; omega
  have H2 := off_ok2 _ hx6
  refine run_t (runInv H2) (by assumption) F10 (by assumption) (by assumption) rfl N10 (.tail _ (.tail _ (.head _))) hOlen (fun i v hv => let ⟨o, a, b⟩ := hof' i v hv; ⟨o, a, b.mono fun p hp => .tail _ (.tail _ (.tail _ hp))⟩) hO6 (fun o ho => ⟨(H2.ok o ho).1, Nat.le_trans (H2.ok o ho).2 (by decide), H2.r8 o ho⟩) (by decide) (by decide) ?_
  intro dn ds nd ex2 h10 tk10 hI2 F11 N11 hsub2 hrows2 hoff2
  walk_at "m_steps"
  have hcm2 := hsub2 _ (.tail _ (.head _))
  have hbm2 := hsub2 _ (.head _)
  refine ListComp_W (cl := [(Str.ofString "best", s1.heap.objs.size + 1)]) F11 (by with_unfolding_all rfl) (by decide) rfl (by decide) rfl ?_
  refine nameX_C N11 (by rfl) (.tail _ hcm2) hoc ?_
  have hkl := hvals.length
  have hkl2 := bestOf_length (([9, 6] ++ xs).map offOf) (2 ^ (([9, 6] ++ xs).map offOf).length)
  have hkl3 : 2 ^ (([9, 6] ++ xs).map offOf).length ≤ 64 := Nat.pow_le_pow_right (by decide) hO6
  refine compW_dict rfl F11 N11 (.tail _ hbm2) hdict lo (by rw [sizeLine_eq]; omega)
    (fun i ys nx => (∀ p ∈ (dn, listOf (ds.map (·.1)).toArray nd) :: ex2, p ∈ nx) ∧ ys.length = i ∧ ∀ (j : Nat) v, ys[j]? = some v → ∃ d, ((bestOf (([9, 6] ++ xs).map offOf) (2 ^ (([9, 6] ++ xs).map offOf).length)).map fun b => (b.2, listStr b.1))[j]? = some d ∧ RowIn nx v d) ⟨fun _ h => h, rfl, fun j v h => by simp at h⟩ ?_ ?_
  · rintro i k vk key ys nx I oI C oC D m2 h9' tk9 E9 hk hkey ⟨hsub3, hyl, hys⟩ hC hm2 F12 N12 off12 ne12
    obtain ⟨tkey, rfl⟩ := Value.isInt_shape hkey
    have N13 := newsSub N12 (l' := (I, oI) :: (C, oC) :: (D, LCg.lst ys) :: (s1.heap.objs.size + 1, oc) :: (bd, od) :: nx) (by
      intro p hp
      simp only [List.mem_cons] at hp ⊢
      rcases hp with h | h | h | h | h | h
      · exact .inl h
      · exact .inr (.inl h)
      · exact .inr (.inr (.inl h))
      · exact .inr (.inr (.inr (h ▸ hsub3 _ (.tail _ hcm2))))
      · exact .inr (.inr (.inr (h ▸ hsub3 _ (.tail _ hbm2))))
      · exact .inr (.inr (.inr h)))
    clear N12
    dsimp only at N13 F12 ⊢
    obtain ⟨p, tp, hp, hval⟩ := hvals.at (bestOf_spec _).1 hk
    have hk8 : R8 k := table_r8 H2.toOffOk (List.mem_of_getElem? hp)
    walk_at "m_steps"
    refine kda_item N13 (.tail _ (.tail _ (.tail _ (.tail _ (.head _))))) hdict hkey hval ?_
    walk_at "m_steps"
    refine listing_t (by assumption) F12 (by assumption) (by assumption) rfl N13 (by decide) hk8.1 hk8.2 ?_
    intro h13 tk13 t13 F13 N14
    walk_at "m_steps"
    rename_i D' h' F' N' l1
    refine LCg.CompEnd.intro F' N' ((D', ({ cls := .type "tuple", data := .seq #[Value.int p tp, Value.str (listStr k) t13] } : Obj)) :: nx) ?_ ⟨⟨Nat.ne_of_gt l1.1, Nat.ne_of_gt l1.2.1, Nat.ne_of_gt l1.2.2.1⟩, off12⟩ (.tail _ (hsub3 _ (.tail _ hbm2))) ⟨fun q hq => .tail _ (hsub3 q hq), by simp [hyl], ?_⟩
    · intro q hq
      simp only [List.mem_cons] at hq ⊢
      rcases hq with h | h | h | h | h
      · exact .inr (.inl h)
      · exact .inr (.inr (.inl h))
      · exact .inr (.inr (.inr (.inl h)))
      · exact .inl h
      · exact .inr (.inr (.inr (.inr (.inr (.inr h)))))
    · intro j v hj
      rw [List.getElem?_append] at hj
      split at hj
      · obtain ⟨d, h1, h2⟩ := hys j v hj
        exact ⟨d, h1, h2.mono fun q hq => .tail _ hq⟩
      · have hji : j = i := by
          have := (List.getElem?_eq_some_iff.mp hj).1
          simp at this
          omega
        subst hji
        rw [hyl] at hj
        simp at hj
        subst hj
        exact ⟨(p, listStr k), by rw [List.getElem?_map, hp]; rfl, D', tp, t13, _, rfl, .head _⟩
  · rintro ys nx D h11 tk11 ⟨hsub3, hyl, hys⟩ F12 N12 hoff3
    walk_at "m_steps"
    have hlenY : ys.length = (rows (([9, 6] ++ xs).map offOf)).length := by rw [hyl, hkl]; exact (List.length_map ..).symm
    refine sortedRows_t (T := rows (([9, 6] ++ xs).map offOf)) F12 N12 (.head _) hlenY (fun j v hj => let ⟨d, a, b⟩ := hys j v hj; ⟨d, a, b.mono fun q hq => .tail _ hq⟩) (rows_nodup H2.toOffOk) (rows_two xs hx6) (Nat.lt_of_le_of_lt (rows_len H2.toOffOk) (by decide)) ?_
    intro D2 p c h12 F14 N14 hp hu hdat
    have e := sort_rows hI2.sorted (fun d => hI2.fin H2 d) hp hu
    rw [e] at hdat
    have hok : ∀ d ∈ (ds.map (·.2)).map rowDat, kqdOk 8 d = true := by
      intro d hd
      obtain ⟨r, hr, rfl⟩ := List.mem_map.mp hd
      obtain ⟨g, hg, e, _⟩ := hI2.best r hr
      have := (list_mode hg).2.1
      rw [← e] at this
      simp [rowDat, kqdOk, this]
    refine kqd_eq (n₁ := ex2) N14 (.tail _ (.tail _ (hsub3 _ (.head _)))) rfl rfl (rowDat_all (·.1) (·.2) ds hrows2) (fun q hq => .tail _ (.tail _ (hsub3 _ (.tail _ hq)))) (.head _) rfl rfl hdat (fun q hq => .tail _ hq) hok hok (Nat.le_of_ble_eq_true rfl) ?_
    have hT : ∀ {α : Type} (x : α) (i : Decidable (x = x)), @decide (x = x) i = true := fun x i => @decide_eq_true _ i rfl
    rw [hT]
    walk_at "m_steps")
end Mine

end

theorem PySem.Challenge.cw_oh0024_01_holds : PySem.Challenge.rw_oh0024_01.Holds :=
  Mine.t0
