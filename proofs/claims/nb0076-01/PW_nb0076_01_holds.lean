import PyProof.Rows.All
import Wide.All
import OpenK.AllK
import Wide.FinOn
import PySem.Challenge.RW_nb0076_01
set_option Elab.async false
section
open PySem PySem.W PyProof.Rows
namespace Mine
set_option maxRecDepth 100000
set_option maxHeartbeats 8000000
open_top hd for PySem.Challenge.rw_nb0076_01
theorem top_off : True := by
  w_top off
  trivial
end Mine
end
section
open PySem PySem.W PyProof.Rows
namespace Mine
set_option maxRecDepth 100000
noncomputable abbrev LOOSE : List Str := looseW hd.view_39 [] ++ List.map (fun x => x.name) (recsOf hd.view_39) ++ List.map (fun x => x.fst) (litsOf hd.view_39) ++ List.map (fun x => x.name) (clssOf hd.view_39 (looseW hd.view_39 []))
noncomputable abbrev PR : Program := PySem.Challenge.rw_nb0076_01.row.prog
/-- an item of the heap: its address, its two ints -/
abbrev Item := Addr × Int × Int
abbrev vals (its : List Item) : Array Value := (its.map fun i => Value.ref i.1).toArray
def ItemIn (rest : List (Addr × Obj)) (i : Item) : Prop := ∃ t u n, (i.1, listOf #[.int i.2.1 t, .int i.2.2 u] n) ∈ rest
def ItemsIn (rest : List (Addr × Obj)) (its : List Item) : Prop := ∀ i ∈ its, ItemIn rest i
end Mine
end
section
open PySem PySem.W PyProof.Rows
namespace Mine
set_option maxRecDepth 100000
open PySem.AutoSeq1 (wpAny_loadPart')
open PySem.MeetsSeq PySem.MeetsSeq3
/-- lists of two ints: the order -/
def ltP (x y : Int × Int) : Bool := decide (x.1 < y.1) || (decide (x.1 = y.1) && decide (x.2 < y.2))
section
variable (l b : Addr) (xs ys : Array Value) (x1 x2 y1 y2 : Int) (t1 t2 u1 u2 : Tok) (n k : Nat)
theorem lt_loop2 (hx : xs = #[.int x1 t1, .int x2 t2]) (hy : ys = #[.int y1 u1, .int y2 u2]) : Meets (Builtin.«list.__eq__.loop» ⟨[.ref l, .ref b, rawInt 2, rawInt 0], []⟩)
      (fun _ R s => s.heap.get? l = some (listOf xs n) ∧ s.heap.get? b = some (listOf ys k) ∧
        R (.ok (.ret (.bool false))) s) := by
  subst hx hy
  intro prog w A R s h
  obtain ⟨hp, g, d, tk, os⟩ := s; obtain ⟨hl, hb, h⟩ := h
  wp_walk using wpAny_loadPart' hl, wpAny_loadPart' hb
  exact h
theorem lt_loop1 (hx : xs = #[.int x1 t1, .int x2 t2]) (hy : ys = #[.int y1 u1, .int y2 u2]) : Meets (Builtin.«list.__eq__.loop» ⟨[.ref l, .ref b, rawInt 1, rawInt 0], []⟩)
      (fun _ R s => s.heap.get? l = some (listOf xs n) ∧ s.heap.get? b = some (listOf ys k) ∧
        R (.ok (.ret (.bool (decide (x2 < y2))))) s) := by
  intro prog w A R s h
  obtain ⟨hp, g, d, tk, os⟩ := s; obtain ⟨hl, hb, h⟩ := h
  wp_walk using wpAny_loadPart' hl, wpAny_loadPart' hb
  have hi1 : xs[(1 : Int).toNat]? = some (.int x2 t2) := by rw [hx]; rfl
  have hi2 : ys[(1 : Int).toNat]? = some (.int y2 u2) := by rw [hy]; rfl
  rw [hi1, hi2]
  refine wpAny_bind (EqGives.int x2 y2 t2 u2 prog w _ _ _ _ ?_)
  cases hb' : x2 == y2 with
  | true =>
    wp_walk
    refine ⟨plainId_quiet plain_eq_loop _, codeAny_builtin entry_eq_loop (by
        rw [Around.under_plainId plain_eq_loop _]
        refine lt_loop2 l b xs ys x1 x2 y1 y2 t1 t2 u1 u2 n k hx hy prog w A R _ ⟨hl, hb, ?_⟩
        have e : decide (x2 < y2) = false := by simp at hb'; subst hb'; simp
        rw [e] at h; exact h)⟩
  | false =>
    wp_walk using wpAny_loadPart' hl, wpAny_loadPart' hb
    rw [hi1, hi2]
    dsimp only
    exact wpAny_bind (show wpAny (model prog w) A.in1 (compareOp .Lt (.int x2 t2) (.int y2 u2)) _ _ _ from wpAny_lt_int (wpAny_pure h))
theorem lt_loop0 (hx : xs = #[.int x1 t1, .int x2 t2]) (hy : ys = #[.int y1 u1, .int y2 u2]) : Meets (Builtin.«list.__eq__.loop» ⟨[.ref l, .ref b, rawInt 0, rawInt 0], []⟩)
      (fun _ R s => s.heap.get? l = some (listOf xs n) ∧ s.heap.get? b = some (listOf ys k) ∧
        R (.ok (.ret (.bool (ltP (x1, x2) (y1, y2))))) s) := by
  intro prog w A R s h
  obtain ⟨hp, g, d, tk, os⟩ := s; obtain ⟨hl, hb, h⟩ := h
  wp_walk using wpAny_loadPart' hl, wpAny_loadPart' hb
  have hi1 : xs[(0 : Int).toNat]? = some (.int x1 t1) := by rw [hx]; rfl
  have hi2 : ys[(0 : Int).toNat]? = some (.int y1 u1) := by rw [hy]; rfl
  rw [hi1, hi2]
  refine wpAny_bind (EqGives.int x1 y1 t1 u1 prog w _ _ _ _ ?_)
  cases hb' : x1 == y1 with
  | true =>
    wp_walk
    refine ⟨plainId_quiet plain_eq_loop _, codeAny_builtin entry_eq_loop (by
        rw [Around.under_plainId plain_eq_loop _]
        refine lt_loop1 l b xs ys x1 x2 y1 y2 t1 t2 u1 u2 n k hx hy prog w A R _ ⟨hl, hb, ?_⟩
        have e : ltP (x1, x2) (y1, y2) = decide (x2 < y2) := by simp at hb'; subst hb'; simp [ltP]
        rw [e] at h; exact h)⟩
  | false =>
    wp_walk using wpAny_loadPart' hl, wpAny_loadPart' hb
    rw [hi1, hi2]
    dsimp only
    have e : ltP (x1, x2) (y1, y2) = decide (x1 < y1) := by simp at hb'; simp [ltP, hb']
    rw [e] at h
    exact wpAny_bind (show wpAny (model prog w) A.in1 (compareOp .Lt (.int x1 t1) (.int y1 u1)) _ _ _ from wpAny_lt_int (wpAny_pure h))
theorem lt_lists (hx : xs = #[.int x1 t1, .int x2 t2]) (hy : ys = #[.int y1 u1, .int y2 u2]) : Meets (Builtin.«list.__lt__» ⟨[.ref l, .ref b], []⟩)
      (fun _ R s => s.heap.get? l = some (listOf xs n) ∧ s.heap.get? b = some (listOf ys k) ∧
        R (.ok (.ret (.bool (ltP (x1, x2) (y1, y2))))) s) := by
  intro prog w A R s h
  obtain ⟨hp, g, d, tk, os⟩ := s; obtain ⟨hl, hb, h⟩ := h
  have f3 := AutoSeq1.sub_list_list
  wp_walk using wpAny_loadPart' hl, wpAny_loadPart' hb
  exact ⟨plainId_quiet plain_eq_loop _, codeAny_builtin entry_eq_loop (by
    rw [Around.under_plainId plain_eq_loop _]
    exact lt_loop0 l b xs ys x1 x2 y1 y2 t1 t2 u1 u2 n k hx hy prog w A R _ ⟨hl, hb, h⟩)⟩
end
theorem lt_pairs {prog : Program} {w : World} {A : Around} {E : Value → Shared → Prop} {s : Shared} {a b : Addr} {x1 x2 y1 y2 : Int} {t1 t2 u1 u2 : Tok} {n k : Nat} {Q : Value → Shared → Prop}
    (hx : s.heap.get? a = some (listOf #[.int x1 t1, .int x2 t2] n)) (hy : s.heap.get? b = some (listOf #[.int y1 u1, .int y2 u2] k)) (hu : A.units < cLine)
    (h : Q (.bool (ltP (x1, x2) (y1, y2))) s) : wpAny (model prog w) A (compareOp .Lt (.ref a) (.ref b)) Q E s :=
  show wpAny (model prog w) A (richCompare .Lt (.ref a) (.ref b)) Q E s from
  richCompare_meets_room (op := .Lt) ⟨_, hx, rfl⟩ ⟨_, hy, rfl⟩ F.slot_list_lt F.entry_list_lt (F.args_list_lt_2 _ _) (lt_lists a b _ _ x1 x2 y1 y2 t1 t2 u1 u2 n k rfl rfl)
    ⟨hx, hy, show Value.bool (ltP (x1, x2) (y1, y2)) ≠ Value.notImplemented ∧ Q _ s from ⟨(fun x => nomatch x), h⟩⟩ hu
end Mine
end
section
open PySem PySem.W PyProof.Rows PySem.Calls
namespace Mine
set_option maxRecDepth 100000
section
variable {prog : Program} {w : World} {A : Around} {E : Value → Shared → Prop} {s : Shared} {h₀ : Heap} {L l : Addr} {m : Str → Option Value} {news rest : List (Addr × Obj)} {its : List Item} {n : Nat} {k : Int} {t u : Tok}
theorem vals_get {j : Nat} (h : j < its.length) : (vals its)[j]? = some (.ref (its.getD j default).1) := by
  simp [vals, h]
theorem vals_size : (vals its).size = its.length := by simp [vals]
theorem it_get {value slice : PySem.Expr} {Q : Value → Shared → Prop} (N : News h₀ L s.heap news) (hm : (l, listOf (vals its) n) ∈ news) (h0 : 0 ≤ k) (h1 : k < its.length) (hb : its.length ≤ 100)
    (h : Q (.ref (its.getD k.toNat default).1) s)
    (hs : subscripted slice false (.ref l) (.int k u) = operate [.ref l, .int k u] (getItem (.ref l) (.int k u)) := by with_unfolding_all rfl) :
    wpAny (model prog w) A (subscriptTail value slice (.ref l) (.int k u)) Q E s := by
  have hl : s.heap.IsList l (vals its) := PySem.IsL.isList (n := n) (N _ hm).1
  exact tail_any hl.typeIs slot_list_getitem.lookup (wpAny_getItem_list hl h0 (by omega) (vals_get (by omega)) h) hs
theorem it_set {Q : Unit → Shared → Prop} {v : Item} (F : Fr h₀ L s.heap m) (N : News h₀ L s.heap ((l, listOf (vals its) n) :: rest)) (hl : ∀ p ∈ rest, p.1 ≠ l) (h0 : 0 ≤ k) (h1 : k < its.length) (hb : its.length ≤ 100)
    (h : ∀ h', Fr h₀ L h' m → News h₀ L h' ((l, listOf (vals (its.set k.toNat v)) n) :: rest) → Q () { s with heap := h' }) :
    wpAny (model prog w) A (setItem (.ref l) (.int k t) (.ref v.1)) Q E s := by
  have z := N (l, listOf (vals its) n) (.head _)
  refine ki_setAt z.1 h0 (by omega) (by rw [vals_size]; omega) (h _ (F.change (Heap.SameBut.update ..) z.2.1 z.2.2) (ki_turn (pre := []) _ N (fun _ h => nomatch h) hl ?_ ?_))
  · apply Array.toList_inj.mp
    simp [vals, List.map_set]
  · simp [vals]
end
/-- a mark at which the walk stops -/
def Mark (P : Prop) : Prop := P
theorem mark {P : Prop} (h : Mark P) : P := h
theorem unmark {P : Prop} (h : P) : Mark P := h
/-- the loop of _siftdown and its last store -/
def sdF (v : Item) (its : List Item) (p : Nat) : List Item :=
  if 0 < p then
    if ltP v.2 (its.getD ((p - 1) / 2) default).2 then sdF v (its.set p (its.getD ((p - 1) / 2) default)) ((p - 1) / 2) else its.set p v
  else its.set p v
termination_by p
decreasing_by omega
end Mine
end
section
open PySem PySem.W PyProof.Rows PySem.Calls
namespace Mine
set_option maxRecDepth 100000
theorem fr_know {h₀ h : Heap} {L : Addr} {m : Str → Option Value} {x : Str} {v : Value} (F : Fr h₀ L h m) (hx : m x = some v) : Fr h₀ L h (fun y => if y = x then some v else m y) := by
  have e : (fun y => if y = x then some v else m y) = m := by
    funext y
    by_cases hy : y = x
    · subst hy; simp [hx]
    · simp [hy]
  rw [e]; exact F
theorem fr_mix {h₀ h : Heap} {L : Addr} {m m₁ : Str → Option Value} {st : List Str} (F : Fr h₀ L h m₁) (hm : ∀ y, st.contains y = false → m₁ y = m y) : Fr h₀ L h (fun y => if st.contains y then m₁ y else m y) := by
  have e : (fun y => if st.contains y then m₁ y else m y) = m₁ := by
    funext y
    cases hy : st.contains y with
    | true => simp
    | false => simp only [Bool.false_eq_true, if_false]; exact (hm y hy).symm
  rw [e]; exact F
theorem st_ne {st : List Str} {x y : Str} (hy : st.contains y = false) (hx : st.contains x = true) : y ≠ x := fun e => by
  subst e; rw [hx] at hy; cases hy
def StEnd (h₀ : Heap) (L : Addr) (s : Shared) (st : List Str) (m : Str → Option Value) (J : Nat → (Str → Option Value) → List (Addr × Obj) → Prop) (Q : Flow → Shared → Prop) (n : Nat) (f : Flow) (s₃ : Shared) : Prop :=
  match f with
  | .next | .cont => ∃ h' tk m' nx' n', s₃ = { s with heap := h', toks := tk } ∧ Fr h₀ L h' m' ∧ News h₀ L h' nx' ∧ n' < n ∧ (∀ y, st.contains y = false → m' y = m y) ∧ J n' m' nx'
  | .brk => Q .next s₃
  | .ret v => Q (.ret v) s₃
section
variable {prog : Program} {w : World} {A : Around} {E : Value → Shared → Prop} {Q : Flow → Shared → Prop} {s : Shared} {env : Env} {h₀ : Heap} {L : Addr}
theorem while_j {test : Expr} {body : List Stmt} {pos : Pos} {m : Str → Option Value} {news : List (Addr × Obj)} (st : List Str) (J : Nat → (Str → Option Value) → List (Addr × Obj) → Prop) {n₀ : Nat}
    (F : Fr h₀ L s.heap m) (N : News h₀ L s.heap news) (hJ : J n₀ m news)
    (turn : ∀ n m₁ nx h tk, Fr h₀ L h (fun y => if st.contains y then m₁ y else m y) → News h₀ L h nx → J n m₁ nx →
      wpAny (model prog w) A (isTrue test env (eval test env)) (fun b s₂ =>
        if b = true then wpAny (model prog w) A (execs body env) (StEnd h₀ L s st m J Q n) E s₂ else Q .next s₂) E { s with heap := h, toks := tk })
    (hE : PassesOwn (model prog w) A env E := by passes_own) :
    wpAny (model prog w) A (exec (.While test body [] pos) env) Q E s := by
  refine While_inv2 (fun n m₁ nx => (∀ y, st.contains y = false → m₁ y = m y) ∧ J n m₁ nx) F N ⟨fun _ _ => rfl, hJ⟩ ?_ hE
  rintro n m₁ nx h tk F₁ N₁ ⟨hm, hJ₁⟩
  refine wpAny_mono (turn n m₁ nx h tk (fr_mix F₁ hm) N₁ hJ₁) (fun b s₂ p => ?_) fun _ _ x => x
  cases b with
  | false => simpa using p
  | true =>
    simp only [if_true] at p ⊢
    refine wpAny_mono p (fun f s₃ q => ?_) fun _ _ x => x
    cases f with
    | ret v => exact q
    | brk => exact q
    | next =>
      obtain ⟨h', tk', m', nx', n', rfl, F', N', hn, hm', hJ'⟩ := q
      exact ⟨h', tk', m', nx', n', rfl, F', N', hn, hm', hJ'⟩
    | cont =>
      obtain ⟨h', tk', m', nx', n', rfl, F', N', hn, hm', hJ'⟩ := q
      exact ⟨h', tk', m', nx', n', rfl, F', N', hn, hm', hJ'⟩
end
end Mine
namespace Mine
open PySem.W
section
variable {prog : Program} {w : World} {A : Around} {E : Value → Shared → Prop} {s : Shared} {h₀ : Heap} {L l : Addr} {news rest : List (Addr × Obj)} {its : List Item}
theorem itemsIn_get (h : ItemsIn rest its) {j : Nat} (hj : j < its.length) : ItemIn rest (its.getD j default) := by
  refine h _ ?_
  simp [List.getD_eq_getElem?_getD, hj]
theorem itemsIn_set (h : ItemsIn rest its) {j : Nat} {v : Item} (hv : ItemIn rest v) : ItemsIn rest (its.set j v) := fun i hi => by
  rcases List.mem_or_eq_of_mem_set hi with hi | rfl
  · exact h i hi
  · exact hv
theorem lt_items {x y : Item} {Q : Value → Shared → Prop} (N : News h₀ L s.heap news) (hs : ∀ p ∈ rest, p ∈ news) (hx : ItemIn rest x) (hy : ItemIn rest y) (hu : A.units < cLine) (h : Q (.bool (ltP x.2 y.2)) s) :
    wpAny (model prog w) A (compareOp .Lt (.ref x.1) (.ref y.1)) Q E s := by
  obtain ⟨t1, u1, n1, hx⟩ := hx
  obtain ⟨t2, u2, n2, hy⟩ := hy
  exact lt_pairs (N _ (hs _ hx)).1 (N _ (hs _ hy)).1 hu h
end
end Mine
namespace Mine
open PySem.W
section
variable {prog : Program} {w : World} {A : Around} {E : Value → Shared → Prop} {s : Shared} {h₀ : Heap} {L l : Addr} {news rest : List (Addr × Obj)} {its : List Item} {n : Nat}
theorem it_len {Q : Value → Shared → Prop} (N : News h₀ L s.heap news) (hm : (l, listOf (vals its) n) ∈ news) (hb : its.length ≤ 100) (h : Q (.int its.length (s.toks + 1)) { s with toks := s.toks + 1 + 1 }) :
    wpAny (model prog w) A (call (.builtin "len") [.ref l]) Q E s := by
  have hl : s.heap.IsList l (vals its) := PySem.IsL.isList (n := n) (N _ hm).1
  have e : (vals its).size = its.length := vals_size
  exact len_list hl (by omega) (by rw [e]; exact h)
end
end Mine
namespace Mine
open PySem.W
section
variable {prog : Program} {w : World} {A : Around} {E : Value → Shared → Prop} {s : Shared} {h₀ : Heap} {L l : Addr} {m : Str → Option Value} {news rest : List (Addr × Obj)} {its : List Item} {n : Nat} {v : Item}
theorem it_append {Q : Value → Shared → Prop} (F : Fr h₀ L s.heap m) (N : News h₀ L s.heap ((l, listOf (vals its) n) :: rest)) (hl : ∀ p ∈ rest, p.1 ≠ l) (hb : its.length ≤ 100)
    (h : ∀ h', Fr h₀ L h' m → News h₀ L h' ((l, listOf (vals (its ++ [v])) (n + 1)) :: rest) → Q .none { s with heap := h' }) : wpAny (model prog w) A (call (.builtin "list.append") [.ref l, .ref v.1]) Q E s := by
  have e : (vals its).push (.ref v.1) = vals (its ++ [v]) := by
    apply Array.toList_inj.mp; simp [vals]
  refine append_K F N (.head hl) (fun h' F' N' => h h' F' ?_) (by rw [vals_size, sizeLine_eq]; omega)
  rw [e] at N'; exact N'
theorem it_pop {Q : Value → Shared → Prop} (F : Fr h₀ L s.heap m) (N : News h₀ L s.heap ((l, listOf (vals (its ++ [v])) n) :: rest)) (hl : ∀ p ∈ rest, p.1 ≠ l) (hb : its.length ≤ 100)
    (h : ∀ h', Fr h₀ L h' m → News h₀ L h' ((l, listOf (vals its) (n + 1)) :: rest) → Q (.ref v.1) { s with heap := h' }) : wpAny (model prog w) A (call (.builtin "list.pop") [.ref l]) Q E s := by
  refine kl_pop (p := its.map fun i => Value.ref i.1) (y := .ref v.1) F N ?_ (.head hl) ?_ h
  · have := kpa_last (.ref v.1) (its.map fun i => Value.ref i.1)
    simpa [vals] using this
  · have : (vals (its ++ [v])).toList.length = its.length + 1 := by simp [vals]
    rw [this, sizeLine_eq]; omega
theorem it_truthy {Q : Bool → Shared → Prop} (N : News h₀ L s.heap news) (hm : (l, listOf (vals its) n) ∈ news) (hb : its.length ≤ 100) (h : Q (decide (0 < its.length)) { s with toks := s.toks + 1 + 1 }) :
    wpAny (model prog w) A (truthy (.ref l)) Q E s := by
  have hl : s.heap.IsList l (vals its) := PySem.IsL.isList (n := n) (N _ hm).1
  have e : (vals its).size = its.length := vals_size
  refine wpAny_truthy_list hl (by omega) ?_
  have e2 : (!(vals its).isEmpty) = decide (0 < its.length) := by
    cases its <;> simp [vals]
  rw [e2]
  exact h
end
end Mine
end
section
open PySem PySem.W PyProof.Rows PySem.Calls
namespace Mine
set_option maxRecDepth 100000
set_option maxHeartbeats 8000000
local macro_rules | `(tactic| walk_at "subscriptTail") => `(tactic| (k_here; (with_reducible show wpAny _ _ (subscriptTail _ _ (Value.ref _) (Value.int _ _)) _ _ _); (with_unfolding_all refine' it_get ?k1 ?k2 ?k3 ?k4 ?k5 ?_ ?k6; (case k1 => k_asm); (case k2 => k_mem); (case k3 => omega); (case k4 => omega); (case k5 => omega); (case k6 => with_unfolding_all rfl); k_whole)))
local macro_rules | `(tactic| walk_at "setItem ref int") => `(tactic| (k_here; (with_reducible show wpAny _ _ (setItem (Value.ref _) (Value.int _ _) (Value.ref (Prod.fst _))) _ _ _); (with_unfolding_all refine' it_set ?k1 ?k2 ?k3 ?k4 ?k5 ?k6 ?_; (case k1 => k_asm); (case k2 => k_asm); (case k3 => assumption); (case k4 => omega); (case k5 => omega); (case k6 => omega); k_whole); intro h' F' N'; (try k_sweep)))
local macro_rules | `(tactic| walk_at "compareOp Lt ref ref") => `(tactic| (k_here; (with_reducible show wpAny _ _ (compareOp CmpOp.Lt (Value.ref (Prod.fst _)) (Value.ref (Prod.fst _))) _ _ _); (with_unfolding_all refine' lt_items ?k1 ?k0 ?k2 ?k3 ?k4 ?_; (case k1 => k_asm); (case k0 => exact fun _ h => List.mem_cons_of_mem _ h); (case k2 => exact itemsIn_get (by assumption) (by omega)); (case k3 => exact itemsIn_get (by assumption) (by omega)); (case k4 => ktr_units); k_whole)))
local macro_rules | `(tactic| walk_at "binaryOp RShift int int") => `(tactic| (k_here; (with_unfolding_all refine' wpAny_rshift1_int ?k1 ?_; (case k1 => omega); k_whole)))
local macro_rules | `(tactic| walk_at "exec") => `(tactic| ((with_reducible show wpAny _ _ (exec (Stmt.While _ _ _ _) _) _ _ _); refine mark ?_))
theorem sdF_lt {v : Item} {its : List Item} {k : Int} {p : Nat} (hk : k = (p : Int)) (h0 : 0 < k) (hlt : ltP v.2 (its.getD ((k - 1) / 2).toNat default).2 = true) :
    sdF v (its.set k.toNat (its.getD ((k - 1) / 2).toNat default)) ((p - 1) / 2) = sdF v its p := by
  have e1 : ((k - 1) / 2).toNat = (p - 1) / 2 := by omega
  have e2 : k.toNat = p := by omega
  rw [e1] at hlt ⊢
  rw [e2]
  conv => rhs; rw [sdF]
  rw [if_pos (by omega), if_pos hlt]
theorem sdF_ge {v : Item} {its : List Item} {k : Int} {p : Nat} (hk : k = (p : Int)) (h0 : 0 < k) (hlt : ltP v.2 (its.getD ((k - 1) / 2).toNat default).2 = false) :
    its.set k.toNat v = sdF v its p := by
  have e1 : ((k - 1) / 2).toNat = (p - 1) / 2 := by omega
  have e2 : k.toNat = p := by omega
  rw [e1] at hlt
  rw [e2, sdF, if_pos (by omega), if_neg (by rw [hlt]; simp)]
theorem sdF_0 {v : Item} {its : List Item} {k : Int} {p : Nat} (hk : k = (p : Int)) (h0 : ¬ 0 < k) :
    its.set k.toNat v = sdF v its p := by
  have e2 : k.toNat = p := by omega
  rw [e2, sdF, if_neg (by omega)]
theorem sd_c {w : World} {mean : ExcName → Option Value} {mg mb : Str → Option Value}
  (dp un : Nat) (gd : Option (List Code)) (cn : Str) (cs : Scope) (a : Addr) (ccd : Value) (cl : List (Str × Addr)) (outer : List Env) (A₀ : Around) (base h₀ : Heap) (L : Addr) (m : Str → Option Value) (rest : List (Addr × Obj)) (s : Shared)
  (l : Addr) (n : Nat) (its : List Item) (pos : Int) (t t' : Tok) (Q E : Value → Shared → Prop)
  (B : Below A₀ base outer h₀) (F : Fr h₀ L s.heap m) (X : (hd.heap_39 w.params).In h₀) (N : News h₀ L s.heap ((l, listOf (vals its) n) :: rest)) (T : Top topProg LOOSE mean mg mb h₀) (hk : cs.kind = .function)
  (hin : ItemsIn rest its) (hl : ∀ p ∈ rest, p.1 ≠ l) (hlen : its.length ≤ 100) (hd : dp + 1 < recursionLimit) (hu : un + 100 < cLine) (h0 : 0 ≤ pos) (h1 : pos < its.length)
  (ret : ∀ h' tk', Fr h₀ L h' m → News h₀ L h' ((l, listOf (vals (sdF (its.getD pos.toNat default) its pos.toNat)) n) :: rest) → Q .none { s with heap := h', toks := tk' }) :
  wpAny (model PR w) (ktrTop dp un gd cn cs L a ccd cl outer) (call (.ref 49) [.ref l, .int 0 t, .int pos t']) Q E s := by
  have hz : PySem.Challenge.rw_nb0076_01 = PySem.Challenge.rw_nb0076_01 ∧ Mine.hd.heap_39 w.params = Mine.hd.heap_39 w.params := by (k_fill; exact ⟨rfl, rfl⟩)
  clear hz
  refine wpAny_call ?_
  ktr_enter
  k_steps
  refine unmark ?_
  rename Fr _ _ _ _ => F1
  rename News _ _ _ _ => N1
  refine while_j [Str.ofString "pos", Str.ofString "parentpos", Str.ofString "parent"] (fun n₁ m₁ nx => ∃ (k : Int) (tk : Tok) (its' : List Item), m₁ (Str.ofString "pos") = some (.int k tk) ∧ k = (n₁ : Int) ∧ n₁ < its'.length ∧ its'.length = its.length ∧ ItemsIn rest its' ∧ sdF (its.getD pos.toNat default) its' n₁ = sdF (its.getD pos.toNat default) its pos.toNat ∧ nx = (l, listOf (vals its') n) :: rest) (n₀ := pos.toNat) F1 N1 ⟨pos, t', its, rfl, by omega, by omega, rfl, hin, rfl, rfl⟩ ?_
  clear F1 N1
  rintro n₁ m₁ nx h₁ tk₁ F2 N2 ⟨k, tk, its', hpos, hkn, hn, hlen', hin', hsd, rfl⟩
  replace F2 := fr_know F2 (x := Str.ofString "pos") (v := .int k tk) (by simpa using hpos)
  k_steps
  · dsimp only [StEnd]
    refine ⟨_, _, _, _, (n₁ - 1) / 2, rfl, by k_asm, by k_asm, by omega, fun y hy => ?_, ⟨_, _, _, rfl, ?_, ?_, ?_, ?_, ?_, rfl⟩⟩
    · repeat rw [if_neg (st_ne hy (by decide))]
      rw [if_neg (by rw [hy]; decide)]
    · omega
    · rw [List.length_set]; omega
    · rw [List.length_set]; exact hlen'
    · exact itemsIn_set hin' (itemsIn_get hin' (by omega))
    · rw [← hsd]; exact sdF_lt hkn (by assumption) (by assumption)
  · dsimp only [StEnd]
    k_steps
    refine ret _ _ (by k_asm) ?_
    rw [← hsd, ← sdF_ge hkn (by assumption) (by assumption)]
    k_asm
  · refine ret _ _ (by k_asm) ?_
    rw [← hsd, ← sdF_0 hkn (by assumption)]
    k_asm
end Mine
end
section
open PySem PySem.W PyProof.Rows PySem.Calls
namespace Mine
set_option maxRecDepth 100000
set_option maxHeartbeats 8000000
/-- the child that _siftup takes -/
def chF (its : List Item) (p : Nat) : Nat := if 2 * p + 2 < its.length ∧ ltP (its.getD (2 * p + 1) default).2 (its.getD (2 * p + 2) default).2 = false then 2 * p + 2 else 2 * p + 1
/-- the loop of _siftup, its store and its call -/
def suF (v : Item) (its : List Item) (p : Nat) : List Item :=
  if 2 * p + 1 < its.length then suF v (its.set p (its.getD (chF its p) default)) (chF its p) else sdF v (its.set p v) p
termination_by its.length - p
decreasing_by
  rw [List.length_set]
  unfold chF
  split <;> omega
theorem suF_r {v : Item} {its : List Item} {k c : Int} {p N : Nat} (hN : its.length = N) (hk : k = (p : Int)) (hc : c = 2 * (p : Int) + 1) (h1 : c + 1 < (N : Int)) (hlt : ltP (its.getD c.toNat default).2 (its.getD (c + 1).toNat default).2 = false) :
    suF v (its.set k.toNat (its.getD (c + 1).toNat default)) (2 * p + 2) = suF v its p := by
  have e1 : c.toNat = 2 * p + 1 := by omega
  have e2 : (c + 1).toNat = 2 * p + 2 := by omega
  have e3 : k.toNat = p := by omega
  rw [e1, e2] at hlt
  rw [e2, e3]
  have ch : chF its p = 2 * p + 2 := by unfold chF; rw [if_pos ⟨by omega, hlt⟩]
  conv => rhs; rw [suF]
  rw [if_pos (by omega), ch]
theorem suF_l {v : Item} {its : List Item} {k c : Int} {p N : Nat} (hN : its.length = N) (hk : k = (p : Int)) (hc : c = 2 * (p : Int) + 1) (h1 : c < (N : Int)) (hlt : ¬ c + 1 < (N : Int) ∨ ltP (its.getD c.toNat default).2 (its.getD (c + 1).toNat default).2 = true) :
    suF v (its.set k.toNat (its.getD c.toNat default)) (2 * p + 1) = suF v its p := by
  have e1 : c.toNat = 2 * p + 1 := by omega
  have e2 : (c + 1).toNat = 2 * p + 2 := by omega
  have e3 : k.toNat = p := by omega
  rw [e1, e2] at hlt
  rw [e1, e3]
  have ch : chF its p = 2 * p + 1 := by
    unfold chF
    rw [if_neg]
    rintro ⟨q1, q2⟩
    rcases hlt with h | h
    · omega
    · rw [h] at q2; cases q2
  conv => rhs; rw [suF]
  rw [if_pos (by omega), ch]
theorem suF_e {v : Item} {its : List Item} {k c : Int} {p N : Nat} (hN : its.length = N) (hk : k = (p : Int)) (hp : p < its.length) (hc : c = 2 * (p : Int) + 1) (h1 : ¬ c < (N : Int)) :
    sdF ((its.set k.toNat v).getD k.toNat default) (its.set k.toNat v) k.toNat = suF v its p := by
  have e3 : k.toNat = p := by omega
  rw [e3, suF, if_neg (by omega)]
  congr 1
  simp [List.getD_eq_getElem?_getD, hp]
local macro_rules | `(tactic| walk_at "subscriptTail") => `(tactic| (k_here; (with_reducible show wpAny _ _ (subscriptTail _ _ (Value.ref _) (Value.int _ _)) _ _ _); (with_unfolding_all refine' it_get ?k1 ?k2 ?k3 ?k4 ?k5 ?_ ?k6; (case k1 => k_asm); (case k2 => k_mem); (case k3 => omega); (case k4 => omega); (case k5 => omega); (case k6 => with_unfolding_all rfl); k_whole)))
local macro_rules | `(tactic| walk_at "setItem ref int") => `(tactic| (k_here; (with_reducible show wpAny _ _ (setItem (Value.ref _) (Value.int _ _) (Value.ref (Prod.fst _))) _ _ _); (with_unfolding_all refine' it_set ?k1 ?k2 ?k3 ?k4 ?k5 ?k6 ?_; (case k1 => k_asm); (case k2 => k_asm); (case k3 => assumption); (case k4 => omega); (case k5 => omega); (case k6 => omega); k_whole); intro h' F' N'; (try k_sweep)))
local macro_rules | `(tactic| walk_at "compareOp Lt ref ref") => `(tactic| (k_here; (with_reducible show wpAny _ _ (compareOp CmpOp.Lt (Value.ref (Prod.fst _)) (Value.ref (Prod.fst _))) _ _ _); (with_unfolding_all refine' lt_items ?k1 ?k0 ?k2 ?k3 ?k4 ?_; (case k1 => k_asm); (case k0 => exact fun _ h => List.mem_cons_of_mem _ h); (case k2 => exact itemsIn_get (by assumption) (by omega)); (case k3 => exact itemsIn_get (by assumption) (by omega)); (case k4 => ktr_units); k_whole)))
local macro_rules | `(tactic| walk_at "call builtin:len") => `(tactic| (k_here; (with_unfolding_all refine' it_len ?k1 ?k2 ?k3 ?_; (case k1 => k_asm); (case k2 => k_mem); (case k3 => omega); k_whole)))
local macro_rules | `(tactic| walk_at "exec") => `(tactic| ((with_reducible show wpAny _ _ (exec (Stmt.While _ _ _ _) _) _ _ _); refine mark ?_))
local macro_rules | `(tactic| walk_at "call ref") => `(tactic| ((with_reducible show wpAny _ _ (call (Value.ref 49) _ _) _ _ _); refine mark ?_))
theorem su_c {w : World} {mean : ExcName → Option Value} {mg mb : Str → Option Value}
  (dp un : Nat) (gd : Option (List Code)) (cn : Str) (cs : Scope) (a : Addr) (ccd : Value) (cl : List (Str × Addr)) (outer : List Env) (A₀ : Around) (base h₀ : Heap) (L : Addr) (m : Str → Option Value) (rest : List (Addr × Obj)) (s : Shared)
  (l : Addr) (n : Nat) (its : List Item) (t : Tok) (Q E : Value → Shared → Prop)
  (B : Below A₀ base outer h₀) (F : Fr h₀ L s.heap m) (X : (hd.heap_39 w.params).In h₀) (N : News h₀ L s.heap ((l, listOf (vals its) n) :: rest)) (T : Top topProg LOOSE mean mg mb h₀) (hk : cs.kind = .function)
  (hin : ItemsIn rest its) (hl : ∀ p ∈ rest, p.1 ≠ l) (hlen : its.length ≤ 100) (hd : dp + 2 < recursionLimit) (hu : un + 200 < cLine) (h1 : 0 < its.length)
  (ret : ∀ h' tk', Fr h₀ L h' m → News h₀ L h' ((l, listOf (vals (suF (its.getD 0 default) its 0)) n) :: rest) → Q .none { s with heap := h', toks := tk' }) :
  wpAny (model PR w) (ktrTop dp un gd cn cs L a ccd cl outer) (call (.ref 56) [.ref l, .int 0 t]) Q E s := by
  have hz : PySem.Challenge.rw_nb0076_01 = PySem.Challenge.rw_nb0076_01 ∧ Mine.hd.heap_39 w.params = Mine.hd.heap_39 w.params := by (k_fill; exact ⟨rfl, rfl⟩)
  clear hz
  refine wpAny_call ?_
  ktr_enter
  k_steps
  refine unmark ?_
  rename Fr _ _ _ _ => F1
  rename News _ _ _ _ => N1
  refine while_j [Str.ofString "pos", Str.ofString "childpos", Str.ofString "rightpos"] (fun n₁ m₁ nx => ∃ (p : Nat) (k c : Int) (tk tc : Tok) (its' : List Item), m₁ (Str.ofString "pos") = some (.int k tk) ∧ m₁ (Str.ofString "childpos") = some (.int c tc) ∧ k = (p : Int) ∧ c = 2 * (p : Int) + 1 ∧ p < its'.length ∧ n₁ = its.length - p ∧ its'.length = its.length ∧ ItemsIn rest its' ∧ suF (its.getD 0 default) its' p = suF (its.getD 0 default) its 0 ∧ nx = (l, listOf (vals its') n) :: rest) (n₀ := its.length) F1 N1 ⟨0, 0, 1, _, _, its, rfl, rfl, rfl, rfl, h1, rfl, rfl, hin, rfl, rfl⟩ ?_
  clear F1 N1
  rintro n₁ m₁ nx h₁ tk₁ F2 N2 ⟨p, k, c, tk, tc, its', hpos, hch, hkp, hcp, hp, hn, hlen', hin', hsu, rfl⟩
  replace F2 := fr_know F2 (x := Str.ofString "pos") (v := .int k tk) (by exact hpos)
  replace F2 := fr_know F2 (x := Str.ofString "childpos") (v := .int c tc) (by exact hch)
  k_steps
  · dsimp only [StEnd]
    refine ⟨_, _, _, _, its.length - (2 * p + 1), rfl, by k_asm, by k_asm, by omega, fun y hy => ?_, ⟨2 * p + 1, _, _, _, _, _, rfl, rfl, ?_, ?_, ?_, rfl, ?_, ?_, ?_, rfl⟩⟩
    · repeat rw [if_neg (st_ne hy (by decide))]
      rw [if_neg (by rw [hy]; decide)]
    · omega
    · omega
    · rw [List.length_set]; omega
    · rw [List.length_set]; exact hlen'
    · exact itemsIn_set hin' (itemsIn_get hin' (by omega))
    · rw [← hsu]; exact suF_l hlen' hkp hcp (by assumption) (.inr (by assumption))
  · dsimp only [StEnd]
    refine ⟨_, _, _, _, its.length - (2 * p + 2), rfl, by k_asm, by k_asm, by omega, fun y hy => ?_, ⟨2 * p + 2, _, _, _, _, _, rfl, rfl, ?_, ?_, ?_, rfl, ?_, ?_, ?_, rfl⟩⟩
    · repeat rw [if_neg (st_ne hy (by decide))]
      rw [if_neg (by rw [hy]; decide)]
    · omega
    · omega
    · rw [List.length_set]; omega
    · rw [List.length_set]; exact hlen'
    · exact itemsIn_set hin' (itemsIn_get hin' (by omega))
    · rw [← hsu]; exact suF_r hlen' hkp hcp (by assumption) (by assumption)
  · dsimp only [StEnd]
    refine ⟨_, _, _, _, its.length - (2 * p + 1), rfl, by k_asm, by k_asm, by omega, fun y hy => ?_, ⟨2 * p + 1, _, _, _, _, _, rfl, rfl, ?_, ?_, ?_, rfl, ?_, ?_, ?_, rfl⟩⟩
    · repeat rw [if_neg (st_ne hy (by decide))]
      rw [if_neg (by rw [hy]; decide)]
    · omega
    · omega
    · rw [List.length_set]; omega
    · rw [List.length_set]; exact hlen'
    · exact itemsIn_set hin' (itemsIn_get hin' (by omega))
    · rw [← hsu]; exact suF_l hlen' hkp hcp (by assumption) (.inl (by assumption))
  · refine unmark ?_
    refine sd_c _ _ _ _ _ _ _ _ _ _ _ _ _ _ rest _ l n _ k t tk _ _ (by k_asm) (by k_asm) (by k_asm) (by k_asm) (by k_asm) rfl ?_ hl ?_ ?_ ?_ ?_ ?_ ?_
    · exact itemsIn_set hin' (itemsIn_get hin (by omega))
    · rw [List.length_set]; omega
    · ktr_room
    · ktr_units
    · omega
    · rw [List.length_set]; omega
    · intro h' tk' F' N'
      k_steps
      refine ret _ _ (by k_asm) ?_
      rw [← hsu, ← suF_e hlen' hkp hp hcp (by assumption)]
      k_asm
end Mine
end
section
open PySem PySem.W PyProof.Rows PySem.Calls
namespace Mine
set_option maxRecDepth 100000
set_option maxHeartbeats 8000000
local macro_rules | `(tactic| walk_at "subscriptTail") => `(tactic| (k_here; (with_reducible show wpAny _ _ (subscriptTail _ _ (Value.ref _) (Value.int _ _)) _ _ _); (with_unfolding_all refine' it_get ?k1 ?k2 ?k3 ?k4 ?k5 ?_ ?k6; (case k1 => k_asm); (case k2 => k_mem); (case k3 => omega); (case k4 => omega); (case k5 => omega); (case k6 => with_unfolding_all rfl); k_whole)))
local macro_rules | `(tactic| walk_at "setItem ref int") => `(tactic| (k_here; (with_reducible show wpAny _ _ (setItem (Value.ref _) (Value.int _ _) (Value.ref (Prod.fst _))) _ _ _); (with_unfolding_all refine' it_set ?k1 ?k2 ?k3 ?k4 ?k5 ?k6 ?_; (case k1 => k_asm); (case k2 => k_asm); (case k3 => assumption); (case k4 => omega); (case k5 => omega); (case k6 => omega); k_whole); intro h' F' N'; (try k_sweep)))
local macro_rules | `(tactic| walk_at "call builtin:len") => `(tactic| (k_here; (with_unfolding_all refine' it_len ?k1 ?k2 ?k3 ?_; (case k1 => k_asm); (case k2 => k_mem); (case k3 => first | omega | (simp only [List.length_append, List.length_cons, List.length_nil]; omega)); k_whole)))
local macro_rules | `(tactic| walk_at "call ref") => `(tactic| ((with_reducible show wpAny _ _ (call (Value.ref 49) _ _) _ _ _); refine mark ?_))
local macro_rules | `(tactic| walk_at "call ref") => `(tactic| ((with_reducible show wpAny _ _ (call (Value.ref 56) _ _) _ _ _); refine mark ?_))
local macro_rules | `(tactic| walk_at "call builtin:list.append") => `(tactic| (k_here; (with_reducible show wpAny _ _ (call (Value.builtin _) [Value.ref _, Value.ref (Prod.fst _)]) _ _ _); (with_unfolding_all refine' it_append ?k1 ?k2 ?k3 ?k4 ?_; (case k1 => k_asm); (case k2 => k_asm); (case k3 => assumption); (case k4 => omega); k_whole); intro h' F' N'; (try k_sweep)))
local macro_rules | `(tactic| walk_at "call builtin:list.pop") => `(tactic| (k_here; (show wpAny _ _ (call (Value.builtin _) [Value.ref _]) _ _ _); (with_unfolding_all refine' it_pop ?k1 ?k2 ?k3 ?k4 ?_; (case k1 => k_asm); (case k2 => k_asm); (case k3 => assumption); (case k4 => omega); k_whole); intro h' F' N'; (try k_sweep)))
local macro_rules | `(tactic| walk_at "truthy ref") => `(tactic| (k_here; (with_unfolding_all refine' it_truthy ?k1 ?k2 ?k3 ?_; (case k1 => k_asm); (case k2 => k_mem); (case k3 => omega); k_whole)))
theorem hpush_c {w : World} {mean : ExcName → Option Value} {mg mb : Str → Option Value}
  (dp un : Nat) (gd : Option (List Code)) (cn : Str) (cs : Scope) (a : Addr) (ccd : Value) (cl : List (Str × Addr)) (outer : List Env) (A₀ : Around) (base h₀ : Heap) (L : Addr) (m : Str → Option Value) (rest : List (Addr × Obj)) (s : Shared)
  (l : Addr) (n : Nat) (its : List Item) (v : Item) (Q E : Value → Shared → Prop)
  (B : Below A₀ base outer h₀) (F : Fr h₀ L s.heap m) (X : (hd.heap_39 w.params).In h₀) (N : News h₀ L s.heap ((l, listOf (vals its) n) :: rest)) (T : Top topProg LOOSE mean mg mb h₀) (hk : cs.kind = .function)
  (hin : ItemsIn rest its) (hv : ItemIn rest v) (hl : ∀ p ∈ rest, p.1 ≠ l) (hlen : its.length ≤ 99) (hd : dp + 2 < recursionLimit) (hu : un + 200 < cLine)
  (ret : ∀ n' h' tk', Fr h₀ L h' m → News h₀ L h' ((l, listOf (vals (sdF v (its ++ [v]) its.length)) n') :: rest) → Q .none { s with heap := h', toks := tk' }) :
  wpAny (model PR w) (ktrTop dp un gd cn cs L a ccd cl outer) (call (.ref 28) [.ref l, .ref v.1]) Q E s := by
  have hz : PySem.Challenge.rw_nb0076_01 = PySem.Challenge.rw_nb0076_01 ∧ Mine.hd.heap_39 w.params = Mine.hd.heap_39 w.params := by (k_fill; exact ⟨rfl, rfl⟩)
  clear hz
  refine wpAny_call ?_
  ktr_enter
  k_steps
  refine unmark ?_
  have e : (((its ++ [v]).length : Int) - 1).toNat = its.length := by simp only [List.length_append, List.length_cons, List.length_nil]; omega
  have e2 : (its ++ [v]).getD its.length default = v := by simp [List.getD_eq_getElem?_getD]
  refine sd_c _ _ _ _ _ _ _ _ _ _ _ _ _ _ rest _ l (n + 1) _ _ _ _ _ _ (by k_asm) (by k_asm) (by k_asm) (by k_asm) (by k_asm) rfl ?_ hl ?_ ?_ ?_ ?_ ?_ ?_
  · intro i hi
    rcases List.mem_append.mp hi with h | h
    · exact hin i h
    · rw [List.mem_singleton.mp h]; exact hv
  · simp only [List.length_append, List.length_cons, List.length_nil]; omega
  · ktr_room
  · ktr_units
  · simp only [List.length_append, List.length_cons, List.length_nil]; omega
  · simp only [List.length_append, List.length_cons, List.length_nil]; omega
  · intro h' tk' F' N'
    k_steps
    rename News _ _ _ _ => N9
    refine ret (n + 1) _ _ (by k_asm) ?_
    rw [e, e2] at N9
    exact N9
theorem hpop_c {w : World} {mean : ExcName → Option Value} {mg mb : Str → Option Value}
  (dp un : Nat) (gd : Option (List Code)) (cn : Str) (cs : Scope) (a : Addr) (ccd : Value) (cl : List (Str × Addr)) (outer : List Env) (A₀ : Around) (base h₀ : Heap) (L : Addr) (m : Str → Option Value) (rest : List (Addr × Obj)) (s : Shared)
  (l : Addr) (n : Nat) (its : List Item) (v : Item) (Q E : Value → Shared → Prop)
  (B : Below A₀ base outer h₀) (F : Fr h₀ L s.heap m) (X : (hd.heap_39 w.params).In h₀) (N : News h₀ L s.heap ((l, listOf (vals (its ++ [v])) n) :: rest)) (T : Top topProg LOOSE mean mg mb h₀) (hk : cs.kind = .function)
  (hin : ItemsIn rest its) (hv : ItemIn rest v) (hl : ∀ p ∈ rest, p.1 ≠ l) (hlen : its.length ≤ 99) (hd : dp + 3 < recursionLimit) (hu : un + 300 < cLine)
  (ret : ∀ n' h' tk', Fr h₀ L h' m → News h₀ L h' ((l, listOf (vals (if its = [] then [] else suF v (its.set 0 v) 0)) n') :: rest) → Q (.ref ((its ++ [v]).getD 0 default).1) { s with heap := h', toks := tk' }) :
  wpAny (model PR w) (ktrTop dp un gd cn cs L a ccd cl outer) (call (.ref 35) [.ref l]) Q E s := by
  have hz : PySem.Challenge.rw_nb0076_01 = PySem.Challenge.rw_nb0076_01 ∧ Mine.hd.heap_39 w.params = Mine.hd.heap_39 w.params := by (k_fill; exact ⟨rfl, rfl⟩)
  clear hz
  refine wpAny_call ?_
  ktr_enter
  k_steps
  · refine unmark ?_
    refine su_c _ _ _ _ _ _ _ _ _ _ _ _ _ _ rest _ l (n + 1) _ _ _ _ (by k_asm) (by k_asm) (by k_asm) (by k_asm) (by k_asm) rfl ?_ hl ?_ ?_ ?_ ?_ ?_
    · exact itemsIn_set hin hv
    · rw [List.length_set]; omega
    · ktr_room
    · ktr_units
    · rw [List.length_set]; assumption
    · intro h' tk' F' N'
      k_steps
      rename News _ _ _ _ => N9
      rename 0 < its.length => hp
      have e1 : (its ++ [v]).getD 0 default = its.getD 0 default := by
        cases its with
        | nil => simp at hp
        | cons x r => rfl
      have e2 : (its.set (Int.toNat 0) v).getD 0 default = v := by
        cases its with
        | nil => simp at hp
        | cons x r => rfl
      have h9 := ret (n + 1) _ tk' (by k_asm) (by rw [if_neg (by rintro rfl; simp at hp)]; rw [e2] at N9; exact N9)
      rw [e1] at h9
      exact h9
  · rename News _ _ _ _ => N9
    rename ¬ 0 < its.length => hp
    have e0 : its = [] := by
      cases its with
      | nil => rfl
      | cons x r => simp at hp
    subst e0
    exact ret (n + 1) _ _ (by k_asm) (by rw [if_pos rfl]; exact N9)
theorem hrep_c {w : World} {mean : ExcName → Option Value} {mg mb : Str → Option Value}
  (dp un : Nat) (gd : Option (List Code)) (cn : Str) (cs : Scope) (a : Addr) (ccd : Value) (cl : List (Str × Addr)) (outer : List Env) (A₀ : Around) (base h₀ : Heap) (L : Addr) (m : Str → Option Value) (rest : List (Addr × Obj)) (s : Shared)
  (l : Addr) (n : Nat) (its : List Item) (v : Item) (Q E : Value → Shared → Prop)
  (B : Below A₀ base outer h₀) (F : Fr h₀ L s.heap m) (X : (hd.heap_39 w.params).In h₀) (N : News h₀ L s.heap ((l, listOf (vals its) n) :: rest)) (T : Top topProg LOOSE mean mg mb h₀) (hk : cs.kind = .function)
  (hin : ItemsIn rest its) (hv : ItemIn rest v) (hl : ∀ p ∈ rest, p.1 ≠ l) (hlen : its.length ≤ 99) (h1 : 0 < its.length) (hd : dp + 3 < recursionLimit) (hu : un + 300 < cLine)
  (ret : ∀ h' tk', Fr h₀ L h' m → News h₀ L h' ((l, listOf (vals (suF v (its.set 0 v) 0)) n) :: rest) → Q (.ref (its.getD 0 default).1) { s with heap := h', toks := tk' }) :
  wpAny (model PR w) (ktrTop dp un gd cn cs L a ccd cl outer) (call (.ref 42) [.ref l, .ref v.1]) Q E s := by
  have hz : PySem.Challenge.rw_nb0076_01 = PySem.Challenge.rw_nb0076_01 ∧ Mine.hd.heap_39 w.params = Mine.hd.heap_39 w.params := by (k_fill; exact ⟨rfl, rfl⟩)
  clear hz
  refine wpAny_call ?_
  ktr_enter
  k_steps
  · refine unmark ?_
    refine su_c _ _ _ _ _ _ _ _ _ _ _ _ _ _ rest _ l n _ _ _ _ (by k_asm) (by k_asm) (by k_asm) (by k_asm) (by k_asm) rfl ?_ hl ?_ ?_ ?_ ?_ ?_
    · exact itemsIn_set hin hv
    · rw [List.length_set]; omega
    · ktr_room
    · ktr_units
    · rw [List.length_set]; assumption
    · intro h' tk' F' N'
      k_steps
      rename News _ _ _ _ => N9
      have e2 : (its.set (Int.toNat 0) v).getD 0 default = v := by
        cases its with
        | nil => simp at h1
        | cons x r => rfl
      rw [e2] at N9
      exact ret _ _ (by k_asm) N9
end Mine
end
section
open PySem PySem.W PyProof.Rows PySem.Calls
open PySem.Builtin PySem.Builtin.ObjectAttr
namespace Mine
set_option maxRecDepth 100000
set_option maxHeartbeats 4000000
theorem slot_fn_sa : Slot "function" "__setattr__" "object.__setattr__" :=
  .of (owner := "object") (n := "__setattr__") (by rw [typeLookup_type, builtinLookup_eq_fast]; kernel_rfl) (by decide +kernel) (by decide +kernel) (by decide +kernel)
    (by first | exact .inl (by decide +kernel) | exact .inr (by decide +kernel)) (by rw [isSubtype_type]; kernel_rfl)
theorem slot_fn_ga : Slot "function" "__getattribute__" "object.__getattribute__" :=
  .of (owner := "object") (n := "__getattribute__") (by rw [typeLookup_type, builtinLookup_eq_fast]; kernel_rfl) (by decide +kernel) (by decide +kernel) (by decide +kernel)
    (by first | exact .inl (by decide +kernel) | exact .inr (by decide +kernel)) (by rw [isSubtype_type]; kernel_rfl)
theorem args_sa (a b c : Value) : argsOk "object.__setattr__" ⟨[a, b, c], []⟩ := by unfold argsOk; kernel_rfl
theorem args_ga (a b : Value) : argsOk "object.__getattribute__" ⟨[a, b], []⟩ := by unfold argsOk; kernel_rfl
theorem entry_ga : entryFor table "object.__getattribute__" = some Builtin.«object.__getattribute__» := entryFor_of_tree (by kernel_rfl)
theorem entry_sa : entryFor table "object.__setattr__" = some Builtin.«object.__setattr__» := entryFor_of_tree (by kernel_rfl)
theorem mro_fn : mroOf (.type "function") = pure [.type "function", .type "object"] := by kernel_rfl
theorem passes_fn (self : Value) : refuseLoop self "__setattr__" [.type "function", .type "object"] = pure () := by kernel_rfl
theorem lk_fn_string : typeLookup (.type "function") (Str.ofString "string") = pure none := by rw [typeLookup_type, builtinLookup_eq_fast]; kernel_rfl
theorem lk_fn_span : typeLookup (.type "function") (Str.ofString "span") = pure none := by rw [typeLookup_type, builtinLookup_eq_fast]; kernel_rfl
theorem lk_fn_getattr : typeLookup (.type "function") "__getattr__" = pure none := by rw [typeLookup_type, builtinLookup_eq_fast]; kernel_rfl
theorem hasDict_fn : typeHasDict (.type "function") = true := by decide +kernel
theorem fin_fn : finalisedInACycleAlone "function" = false := by decide +kernel
section
variable {prog : Program} {w : World} {A : Around} {E : Value → Shared → Prop} {h : Heap} {g : Array GenState} {d : Drawn} {t : Nat} {os : OsState} {x dx : Addr} {o : Obj} {name : Str} {v : Value} {mA : Str → Option Value}
theorem fn_store_new {tk : Tok} {Q : Fin → Shared → Prop} (hx : h.get? x = some o) (hc : o.cls = .type "function") (hd : o.dict = none) (hnc : ∀ c, o.data ≠ .cls c)
    (hB : typeLookup (.type "function") name = pure none)
    (hq : ∀ h' tk', h'.get? x = some { o with dict := some h.objs.size } → h'.Ns1 h.objs.size (fun y => if y = name then some v else none) →
      (∀ b ob, b ≠ x → h.get? b = some ob → h'.get? b = some ob) → Q (.done (.ret .none)) ⟨h', g, d, tk', os⟩) :
    wpAny (model prog w) A (Builtin.«object.__setattr__» ⟨[.ref x, .str name tk, v], []⟩) Q E ⟨h, g, d, t, os⟩ := by
  have hpass := passes_fn (.ref x)
  unfold Builtin.«object.__setattr__»
  repeat (first | rw [refuse_eq] | rw [mro_fn] | rw [hpass] | (with_reducible refine wpAny_loadPart_at hx ?_; rw [hc]) | rw [hB] | wp_step)
  rw [hd]
  dsimp only
  rw [if_neg (by rw [hasDict_fn]; simp)]
  split
  · rename_i c hcd
    exact absurd hcd (hnc c)
  · have hx₁ : (h.push { cls := .type "dict", data := .dict #[] }).get? x = some o := Heap.get?_push_of_some _ hx
    have hxs : x ≠ h.objs.size := Nat.ne_of_lt (Heap.lt_size hx)
    refine wpAny_bind (wpAny_alloc' ?_)
    refine wpAny_bind (wpAny_update' hx₁ ?_)
    unfold dictMade
    dsimp only
    rw [if_neg (by rw [fin_fn]; simp)]
    refine wpAny_pure ?_
    have hgd : ((h.push { cls := .type "dict", data := .dict #[] }).update x fun o => { cls := o.cls, dict := some h.objs.size, data := o.data, slots := o.slots }).get? h.objs.size
        = some { cls := .type "dict", data := .dict #[] } :=
      (Heap.get?_update_ne _ _ _ _ hxs.symm).trans (Heap.get?_push_at rfl rfl)
    have hnd : ((h.push { cls := .type "dict", data := .dict #[] }).update x fun o => { cls := o.cls, dict := some h.objs.size, data := o.data, slots := o.slots }).Ns h.objs.size (fun _ => none) :=
      ⟨_, #[], _, hgd, rfl, fun e he => absurd he (by simp), fun _ => rfl⟩
    show wpAny _ _ (storeInDict h.objs.size (.str name tk) name v) _ _ _
    unfold storeInDict newKeyGuard
    refine wpAny_bind (wpAny_pure (wpAny_bind (wpAny_nsSet1 (Heap.Ns1.of_empty hnd) fun h' hn' hs => ?_)))
    obtain ⟨oD, esD, epD, hoD, hdD, hcD⟩ := hn'.count (Within.cons name v Within.nil)
    refine wpAny_bind (wpAny_lookBehind hoD (by rw [hdD]; exact pastItsLine_dict (Nat.le_trans hcD (by rw [List.length_cons, List.length_nil, sizeLine_eq]; omega))) ?_)
    wp_walk
    have hx' : h'.get? x = some { cls := o.cls, dict := some h.objs.size, data := o.data, slots := o.slots } := by
      refine (hs.2 x hxs).trans (Heap.get?_update_self _ hx₁ ?_)
      have hfr := (Heap.get?_some_iff.mp hx).2
      obtain ⟨oc, od, odt, osl⟩ := o
      cases odt <;> first | rfl | exact hfr
    refine hq h' _ hx' hn' (fun b ob hbx hb => ?_)
    exact (hs.2 b (Nat.ne_of_lt (Heap.lt_size hb))).trans ((Heap.get?_update_ne _ _ _ _ hbx).trans (Heap.get?_push_of_some _ hb))
theorem fn_store_more {tk : Tok} {Q : Fin → Shared → Prop} {ns : List Str} (hx : h.get? x = some o) (hc : o.cls = .type "function") (hd : o.dict = some dx) (hne : dx ≠ x) (hnd : h.Ns1 dx mA)
    (hB : typeLookup (.type "function") name = pure none) (hw : Within mA ns) (hsz : ns.length ≤ 1000)
    (hq : ∀ h' tk', h'.Ns1 dx (fun y => if y = name then some v else mA y) → Heap.SameBut dx h h' → Q (.done (.ret .none)) ⟨h', g, d, tk', os⟩) :
    wpAny (model prog w) A (Builtin.«object.__setattr__» ⟨[.ref x, .str name tk, v], []⟩) Q E ⟨h, g, d, t, os⟩ := by
  have hpass := passes_fn (.ref x)
  unfold Builtin.«object.__setattr__»
  repeat (first | rw [refuse_eq] | rw [mro_fn] | rw [hpass] | (with_reducible refine wpAny_loadPart_at hx ?_; rw [hc]) | rw [hB] | wp_step)
  rw [hd]
  refine wpAny_pure ?_
  show wpAny _ _ (storeInDict dx (.str name tk) name v) _ _ _
  unfold storeInDict newKeyGuard
  refine wpAny_bind (wpAny_pure (wpAny_bind (wpAny_nsSet1 hnd fun h' hn' hs => ?_)))
  obtain ⟨oD, esD, epD, hoD, hdD, hcD⟩ := hn'.count (Within.cons name v hw)
  refine wpAny_bind (wpAny_lookBehind hoD (by rw [hdD]; exact pastItsLine_dict (Nat.le_trans hcD (by rw [List.length_cons, sizeLine_eq]; omega))) ?_)
  wp_walk
  exact hq h' _ hn' hs
theorem fn_set_new {Q : Unit → Shared → Prop} (hx : h.get? x = some o) (hc : o.cls = .type "function") (hd : o.dict = none) (hnc : ∀ c, o.data ≠ .cls c)
    (hB : typeLookup (.type "function") name = pure none)
    (hq : ∀ h' tk', h'.get? x = some { o with dict := some h.objs.size } → h'.Ns1 h.objs.size (fun y => if y = name then some v else none) →
      (∀ b ob, b ≠ x → h.get? b = some ob → h'.get? b = some ob) → Q () ⟨h', g, d, tk', os⟩) :
    wpAny (model prog w) A (setAttr (.ref x) name v) Q E ⟨h, g, d, t, os⟩ := by
  have hT : Shared.TypeIs ⟨h, g, d, t + 1, os⟩ (.ref x) "function" := ⟨_, hx, hc⟩
  unfold setAttr
  refine wpAny_bind (wpAny_mkText (wpAny_bind (wpAny_callSpecial?_slot hT slot_fn_sa (wpAny_call_entry slot_fn_sa hT entry_sa (fn_store_new hx hc hd hnc hB fun h' tk' a b c => ⟨_, rfl, ?_⟩) (args_sa _ _ _)))))
  exact wpAny_pure (hq h' tk' a b c)
theorem fn_set_more {Q : Unit → Shared → Prop} {ns : List Str} (hx : h.get? x = some o) (hc : o.cls = .type "function") (hd : o.dict = some dx) (hne : dx ≠ x) (hnd : h.Ns1 dx mA)
    (hB : typeLookup (.type "function") name = pure none) (hw : Within mA ns) (hsz : ns.length ≤ 1000)
    (hq : ∀ h' tk', h'.Ns1 dx (fun y => if y = name then some v else mA y) → Heap.SameBut dx h h' → Q () ⟨h', g, d, tk', os⟩) :
    wpAny (model prog w) A (setAttr (.ref x) name v) Q E ⟨h, g, d, t, os⟩ := by
  have hT : Shared.TypeIs ⟨h, g, d, t + 1, os⟩ (.ref x) "function" := ⟨_, hx, hc⟩
  unfold setAttr
  refine wpAny_bind (wpAny_mkText (wpAny_bind (wpAny_callSpecial?_slot hT slot_fn_sa (wpAny_call_entry slot_fn_sa hT entry_sa (fn_store_more hx hc hd hne hnd hB hw hsz fun h' tk' a b => ⟨_, rfl, ?_⟩) (args_sa _ _ _)))))
  exact wpAny_pure (hq h' tk' a b)
theorem fn_load {tk : Tok} {Q : Fin → Shared → Prop} (hx : h.get? x = some o) (hc : o.cls = .type "function") (hd : o.dict = some dx) (hnc : ∀ c, o.data ≠ .cls c) (hnd : h.Ns dx mA) (hv : mA name = some v)
    (hB : typeLookup (.type "function") name = pure none) (hq : Q (.done (.ret v)) ⟨h, g, d, t, os⟩) :
    wpAny (model prog w) A (Builtin.«object.__getattribute__» ⟨[.ref x, .str name tk], []⟩) Q E ⟨h, g, d, t, os⟩ := by
  unfold Builtin.«object.__getattribute__»
  repeat (first | (with_reducible refine wpAny_loadPart_at hx ?_; rw [hc]) | rw [hB] | wp_step)
  split
  · rename_i c hcd
    exact absurd hcd (hnc c)
  unfold instanceDict
  repeat (first | (with_reducible refine wpAny_loadPart_at hx ?_; rw [hc]) | wp_step)
  rw [hd]
  repeat (first | (with_reducible refine wpAny_nsGet hnd ?_; rw [hv]) | wp_step)
  exact hq
theorem fn_get {ex : Bool} {Q : Value → Shared → Prop} (hx : h.get? x = some o) (hc : o.cls = .type "function") (hd : o.dict = some dx) (hnc : ∀ c, o.data ≠ .cls c) (hnd : h.Ns dx mA) (hv : mA name = some v)
    (hB : typeLookup (.type "function") name = pure none) (hh : handedOut v = pure v) (hq : ∀ tk, Q v ⟨h, g, d, tk, os⟩) :
    wpAny (model prog w) A (getAttr (.ref x) name ex) Q E ⟨h, g, d, t, os⟩ := by
  have hT : Shared.TypeIs ⟨h, g, d, t + 1, os⟩ (.ref x) "function" := ⟨_, hx, hc⟩
  have hl := slot_fn_ga.lookup
  unfold getAttr getAttrBy
  repeat (first | (with_reducible refine wpAny_loadPart_at hx ?_; rw [hc]) | rw [hl] | wp_step)
  rw [if_neg (by simp [onTheHeap])]
  unfold boundAndCalled
  rw [slot_fn_ga.bind]
  refine wpAny_bind (wpAny_pure ?_)
  show wpAny (model prog w) A (call (.builtin "object.__getattribute__") (.ref x :: [.str name t])) _ _ _
  refine wpAny_call_entry slot_fn_ga hT entry_ga (fn_load hx hc hd hnc hnd hv hB ⟨_, rfl, ?_⟩) (args_ga _ _)
  show wpAny (model prog w) A (handedOut v) _ _ _
  rw [hh]
  exact wpAny_pure (hq _)
theorem fn_method {pl : Sem Bool} {Q : Value × List Value → Shared → Prop} (hx : h.get? x = some o) (hc : o.cls = .type "function") (hd : o.dict = some dx) (hnc : ∀ c, o.data ≠ .cls c) (hnd : h.Ns dx mA) (hv : mA name = some v)
    (hB : typeLookup (.type "function") name = pure none) (hh : handedOut v = pure v) (hq : ∀ tk, Q (v, []) ⟨h, g, d, tk, os⟩) :
    wpAny (model prog w) A (getMethod (.ref x) name pl) Q E ⟨h, g, d, t, os⟩ := by
  have hT : ∀ t, Shared.TypeIs ⟨h, g, d, t, os⟩ (.ref x) "function" := fun _ => ⟨_, hx, hc⟩
  have hl := slot_fn_ga.lookup
  unfold getMethod
  dsimp only
  refine wpAny_bind (wpAny_specialOf (hT _) hl ?_)
  dsimp only
  rw [if_neg (by rw [F.canon_object_ga]; simp)]
  refine wpAny_bind (wpAny_specialOf (hT _) lk_fn_getattr ?_)
  rw [if_neg (by simp)]
  refine wpAny_bind (wpAny_specialOf (hT _) hB ?_)
  dsimp only
  exact wpAny_bind (fn_get hx hc hd hnc hnd hv hB hh fun tk => wpAny_pure (hq tk))
end
end Mine
end
section
open PySem PySem.W PyProof.Rows PySem.Calls
namespace Mine
set_option maxRecDepth 100000
set_option maxHeartbeats 4000000
def NsO (o : Obj) (m : Str → Option Value) : Prop := ∃ es ep, o.data = .dict es ep ∧ StrKeys es ∧ UniqKeys es ∧ ∀ name, nsFind es name = m name
section
variable {prog : Program} {w : World} {A : Around} {E : Value → Shared → Prop} {s : Shared} {h₀ : Heap} {L f dx : Addr} {m mA : Str → Option Value} {news : List (Addr × Obj)} {gn : Obj → List (Addr × Obj)} {o oD : Obj} {name : Str} {v : Value}
theorem fl_new {Q : Unit → Shared → Prop} (F : Fr h₀ L s.heap m) (N : News h₀ L s.heap news) (U : UpdF f o news gn) (hc : o.cls = .type "function") (hd : o.dict = none) (hnc : ∀ c, o.data ≠ .cls c)
    (hB : typeLookup (.type "function") name = pure none)
    (hq : ∀ dx oD h' tk', Fr h₀ L h' m → News h₀ L h' ((dx, oD) :: gn { o with dict := some dx }) → NsO oD (fun y => if y = name then some v else none) → (∀ p ∈ news, p.1 < dx) → Q () { s with heap := h', toks := tk' }) :
    wpAny (model prog w) A (setAttr (.ref f) name v) Q E s := by
  obtain ⟨pre, post, rfl, hgr, h1, h2⟩ := U.split
  have z := N (f, o) (List.mem_append_right _ (.head _))
  obtain ⟨hp, gs, dr, tk, os⟩ := s
  have fresh : ∀ b, L < b → h₀.get? b = none := fun b hb => Heap.get?_none_of_le (Nat.le_trans F.above (Nat.le_of_lt hb))
  refine fn_set_new z.1 hc hd hnc hB fun h' tk' ha hb hk => ?_
  obtain ⟨oD, es, ep, hoD, r⟩ := hb
  have keep : ∀ b ob, h₀.get? b = some ob → h'.get? b = some ob := fun b ob e => hk b ob (fun q => by rw [q, z.2.2] at e; cases e) (F.keep b ob e)
  refine hq hp.objs.size oD h' tk' ⟨?_, keep, F.above⟩ (fun p hp' => ?_) ⟨es, ep, r⟩ (fun p hp' => Heap.lt_size (N p hp').1)
  · obtain ⟨oL, es', ep', hoL, r'⟩ := F.ns
    exact ⟨oL, es', ep', hk L oL z.2.1.symm hoL, r'⟩
  · rcases List.mem_cons.mp hp' with rfl | hp'
    · exact ⟨hoD, Nat.ne_of_gt F.ns.lt, fresh _ F.ns.lt⟩
    · rw [hgr] at hp'
      rcases List.mem_append.mp hp' with hp' | hp'
      · have n := N p (List.mem_append_left _ hp')
        exact ⟨hk _ _ (h1 p hp') n.1, n.2⟩
      · rcases List.mem_cons.mp hp' with rfl | hp'
        · exact ⟨ha, z.2⟩
        · have n := N p (List.mem_append_right _ (.tail _ hp'))
          exact ⟨hk _ _ (h2 p hp') n.1, n.2⟩
theorem NsO.at {h : Heap} (x : NsO oD mA) (hg : h.get? dx = some oD) : h.Ns1 dx mA := let ⟨es, ep, r⟩ := x; ⟨oD, es, ep, hg, r⟩
theorem fl_more {Q : Unit → Shared → Prop} {ns : List Str} (F : Fr h₀ L s.heap m) (N : News h₀ L s.heap news) (hm : (f, o) ∈ news) (hc : o.cls = .type "function") (hd : o.dict = some dx) (hne : dx ≠ f) (U : UpdF dx oD news gn) (hn : NsO oD mA)
    (hB : typeLookup (.type "function") name = pure none) (hw : Within mA ns) (hsz : ns.length ≤ 1000)
    (hq : ∀ oD' h' tk', Fr h₀ L h' m → News h₀ L h' (gn oD') → NsO oD' (fun y => if y = name then some v else mA y) → Q () { s with heap := h', toks := tk' }) :
    wpAny (model prog w) A (setAttr (.ref f) name v) Q E s := by
  have y := N (f, o) hm
  obtain ⟨pre, post, rfl, hgr, h1, h2⟩ := U.split
  have z := N (dx, oD) (List.mem_append_right _ (.head _))
  obtain ⟨hp, gs, dr, tk, os⟩ := s
  refine fn_set_more y.1 hc hd hne (hn.at z.1) hB hw hsz fun h' tk' hb hs => ?_
  obtain ⟨oD', es, ep, hoD, r⟩ := hb
  refine hq oD' h' tk' (F.change hs z.2.1 z.2.2) ?_ ⟨es, ep, r⟩
  rw [hgr]
  exact news_set N h1 h2 hs hoD
theorem fl_get {Q : Value → Shared → Prop} {ex : Bool} (N : News h₀ L s.heap news) (hm : (f, o) ∈ news) (hc : o.cls = .type "function") (hd : o.dict = some dx) (hnc : ∀ c, o.data ≠ .cls c) (hm' : (dx, oD) ∈ news) (hn : NsO oD mA) (hv : mA name = some v)
    (hB : typeLookup (.type "function") name = pure none) (hh : handedOut v = pure v) (hq : ∀ tk, Q v { s with toks := tk }) : wpAny (model prog w) A (getAttr (.ref f) name ex) Q E s := by
  obtain ⟨hp, gs, dr, tk, os⟩ := s
  exact fn_get (N _ hm).1 hc hd hnc (hn.at (N _ hm').1).ns hv hB hh hq
theorem fl_method {Q : Value × List Value → Shared → Prop} {pl : Sem Bool} (N : News h₀ L s.heap news) (hm : (f, o) ∈ news) (hc : o.cls = .type "function") (hd : o.dict = some dx) (hnc : ∀ c, o.data ≠ .cls c) (hm' : (dx, oD) ∈ news) (hn : NsO oD mA) (hv : mA name = some v)
    (hB : typeLookup (.type "function") name = pure none) (hh : handedOut v = pure v) (hq : ∀ tk, Q (v, []) { s with toks := tk }) : wpAny (model prog w) A (getMethod (.ref f) name pl) Q E s := by
  obtain ⟨hp, gs, dr, tk, os⟩ := s
  exact fn_method (N _ hm).1 hc hd hnc (hn.at (N _ hm').1).ns hv hB hh hq
end
end Mine
namespace Mine
open PySem.W
theorem rest_ne {rest : List (Addr × Obj)} {c f : Addr} (h : ∀ p ∈ rest, p.1 < c) (h2 : @LT.lt Nat _ c f) : ∀ p ∈ rest, p.1 ≠ f := fun p hp => Nat.ne_of_lt (Nat.lt_trans (h p hp) h2)
theorem allLt_mem {c : Addr} : ∀ {rest : List (Addr × Obj)}, AllLt c rest → ∀ p ∈ rest, p.1 < c
  | [], _, _, h => nomatch h
  | _ :: _, h, _, .head _ => h.1
  | _ :: _, h, _, .tail _ hp => allLt_mem h.2 _ hp
end Mine
end
section
open PySem PySem.W PyProof.Rows PySem.Calls
namespace Mine
set_option maxRecDepth 100000
set_option maxHeartbeats 8000000
abbrev QUAL : Str := Str.ofString "_law_found" ++ Str.ofString ".<locals>." ++ Str.ofString "<lambda>"
/-- the table of the codes that _law_found has made, and what of them is kept -/
def TabOk (ps : Array Value) (tl : List (Addr × Obj)) : Prop := (ps = #[] ∧ tl = []) ∨ ∃ c1 c2 oc vs t, ps = #[rawInt 49, rawInt 12, .ref c1, rawInt 51, rawInt 17, .ref c2] ∧ tl = [(c2, oc)] ∧ oc.data = .fields vs ∧ vs[1]? = some (.str QUAL t) ∧ 58 < c2
theorem pickA {h₀ h : Heap} {L c1 c2 : Addr} {oc : Obj} {q0 q1 q3 q4 q5 q6 q7 : Addr × Obj} {rest : List (Addr × Obj)}
    (N : News h₀ L h (q0 :: q1 :: (c2, oc) :: q3 :: q4 :: q5 :: q6 :: q7 :: (58, tabObj (#[] ++ #[rawInt (49 : Nat), rawInt (12 : Nat), Value.ref c1] ++ #[rawInt (51 : Nat), rawInt (17 : Nat), Value.ref c2])) :: rest)) :
    News h₀ L h ((58, tabObj #[rawInt 49, rawInt 12, .ref c1, rawInt 51, rawInt 17, .ref c2]) :: ([(c2, oc)] ++ rest)) := fun p hp => N p (by
  simp only [List.mem_cons, List.singleton_append] at hp ⊢
  rcases hp with rfl | rfl | hp
  · exact .inr (.inr (.inr (.inr (.inr (.inr (.inr (.inr (.inl rfl))))))))
  · exact .inr (.inr (.inl rfl))
  · exact .inr (.inr (.inr (.inr (.inr (.inr (.inr (.inr (.inr hp)))))))))
theorem pickB {h₀ h : Heap} {L c2 : Addr} {oc : Obj} {q0 q1 q3 q4 q5 q6 q7 : Addr × Obj} {rest : List (Addr × Obj)}
    (N : News h₀ L h (q0 :: q1 :: q3 :: q4 :: q5 :: q6 :: q7 :: (c2, oc) :: rest)) :
    News h₀ L h (q7 :: ([(c2, oc)] ++ rest)) := fun p hp => N p (by
  simp only [List.mem_cons, List.singleton_append] at hp ⊢
  rcases hp with rfl | rfl | hp
  · exact .inr (.inr (.inr (.inr (.inr (.inr (.inl rfl))))))
  · exact .inr (.inr (.inr (.inr (.inr (.inr (.inr (.inl rfl)))))))
  · exact .inr (.inr (.inr (.inr (.inr (.inr (.inr (.inr hp))))))))
/-- what the two calls give -/
def cutOf (x : Str) (f b : Int) : Str := Txt.slice x none (some f) ++ Txt.slice x (some b) none
local macro_rules | `(tactic| k_all) => `(tactic| assumption)
local macro_rules | `(tactic| k_all) => `(tactic| exact rest_ne (by assumption) (by omega))
local macro_rules | `(tactic| k_room) => `(tactic| ktr_room)
local macro_rules | `(tactic| walk_at "setAttr ref") => `(tactic| (k_here; (refine' fl_more ?k1 ?k2 ?k3 ?k4 ?k5 ?k6 ?k7 ?k8 ?k9 ?k10 ?k11 ?_; (case k1 => k_asm); (case k2 => k_asm); (case k3 => k_mem); (case k4 => rfl); (case k5 => rfl); (case k6 => k_ne); (case k7 => k_updF); (case k8 => assumption); (case k9 => first | exact lk_fn_string | exact lk_fn_span); (case k10 => exact Within.cons _ _ Within.nil); (case k11 => decide); k_whole); intro oD' h' tk' F' N' hO'; (try dsimp only at N')))
local macro_rules | `(tactic| walk_at "setAttr ref") => `(tactic| (k_here; (refine' fl_new ?k1 ?k2 ?k3 ?k4 ?k5 ?k6 ?k7 ?_; (case k1 => k_asm); (case k2 => k_asm); (case k3 => k_updF); (case k4 => rfl); (case k5 => rfl); (case k6 => exact fun _ h => nomatch h); (case k7 => first | exact lk_fn_string | exact lk_fn_span); k_whole); intro dx' oD' h' tk' F' N' hO' l1; (try dsimp only at N'); (try k_lt l1)))
local macro_rules | `(tactic| walk_at "getMethod ref") => `(tactic| (k_here; (refine' fl_method ?k1 ?k2 ?k3 ?k4 ?k5 ?k6 ?k7 ?k8 ?k9 ?k10 ?_; (case k1 => k_asm); (case k2 => k_mem); (case k3 => rfl); (case k4 => rfl); (case k5 => exact fun _ h => nomatch h); (case k6 => k_mem); (case k7 => assumption); (case k8 => rfl); (case k9 => first | exact lk_fn_string | exact lk_fn_span); (case k10 => rfl); k_whole); intro tkm'))
local macro_rules | `(tactic| walk_at "getAttr ref") => `(tactic| (k_here; (refine' fl_get ?k1 ?k2 ?k3 ?k4 ?k5 ?k6 ?k7 ?k8 ?k9 ?k10 ?_; (case k1 => k_asm); (case k2 => k_mem); (case k3 => rfl); (case k4 => rfl); (case k5 => exact fun _ h => nomatch h); (case k6 => k_mem); (case k7 => assumption); (case k8 => rfl); (case k9 => first | exact lk_fn_string | exact lk_fn_span); (case k10 => rfl); k_whole); intro tkm'))
theorem cut_a {w : World} {mean : ExcName → Option Value} {mg mb : Str → Option Value}
  (dp un : Nat) (gd : Option (List Code)) (cn : Str) (cs : Scope) (a : Addr) (ccd : Value) (cl : List (Str × Addr)) (outer : List Env) (A₀ : Around) (base h₀ : Heap) (L : Addr) (m : Str → Option Value) (rest : List (Addr × Obj)) (s : Shared)
  (x : Str) (f b : Int) (t tf tb : Tok) (Q E E' : Value → Shared → Prop)
  (B : Below A₀ base outer h₀) (F : Fr h₀ L s.heap m) (X : (hd.heap_39 w.params).In h₀) (N : News h₀ L s.heap ((58, tabObj #[]) :: rest)) (T : Top topProg LOOSE mean mg mb h₀) (hk : cs.kind = .function)
  (hx : x.length ≤ 100) (hC : CodeHd h₀ 62 58) (hl : ∀ p ∈ rest, p.1 ≠ 58) (hd : dp + 4 < recursionLimit) (hu : un + 200 < cLine)
  (ret : ∀ f' h' tk', Fr h₀ L h' m → FnAt f' h' → (∀ (tk'' : Nat) (Q' : Value → Shared → Prop), (∀ ps' tl' h'' tk'' t'', Fr h₀ L h'' m → News h₀ L h'' ((58, tabObj ps') :: (tl' ++ rest)) → TabOk ps' tl' → Q' (.str (cutOf x f b) t'') { s with heap := h'', toks := tk'' }) →
      wpAny (model PR w) (ktrTop dp un gd cn cs L a ccd cl outer) (call (.ref 21) [.ref f']) Q' E' { s with heap := h', toks := tk'' }) → Q (.ref f') { s with heap := h', toks := tk' }) :
  wpAny (model PR w) (ktrTop dp un gd cn cs L a ccd cl outer) (call (.ref 63) [.str x t, .int f tf, .int b tb]) Q E s := by
  have hz : PySem.Challenge.rw_nb0076_01 = PySem.Challenge.rw_nb0076_01 ∧ Mine.hd.heap_39 w.params = Mine.hd.heap_39 w.params := by (k_fill; exact ⟨rfl, rfl⟩)
  clear hz
  refine wpAny_call ?_
  refine' code_defC ?k1 ?k2 ?k3 ?k4 ?k5 ?kA ?kF ?kK ?k6 ?k7 ?k8 ?k9 ?kB ?kD ?_ ?c2 ?c3 ?c4; (case kA => exact rfl); (case kF => exact rfl); (case kK => assumption); (case k1 => k_asm); (case k2 => k_asm); (case k3 => k_asm); (case k4 => k_asm); (case k5 => k_asm); (case k6 => k_is); (case k7 => k_is); (case k8 => ktr_room); (case k9 => exact BindsTo.of_eq rfl); (case kB => exact rfl); (case kD => decide +kernel); (case c2 => exact rfl); (case c3 => exact rfl); (case c4 => exact rfl); k_whole
  intro g' L' h' tk' cells' FG' F' N' Y' B' X' T' l1
  (try k_lt l1)
  k_cells Y'
  (try simp only [List.cons_append, List.nil_append] at N')
  (try dsimp only)
  (try k_lift B')
  (try k_fold)
  obtain ⟨l1, l2⟩ := l1
  replace l2 := allLt_mem l2
  have hC' : CodeHd g' 62 58 := hC.keeps FG'.keep
  k_steps
  refine ret _ _ _ (by k_asm) (FnAt.of (by k_asm) (by k_mem)) (fun tk9 Q9 hQ9 => ?_)
  refine wpAny_call ?_
  ktr_enter
  k_steps
  rename News _ _ _ _ => N9
  have N10 := pickA N9
  exact hQ9 _ _ _ _ _ (by k_asm) N10 (.inr ⟨_, _, _, _, _, rfl, rfl, by assumption, by assumption, by show @LT.lt Nat _ 58 _; omega⟩)
theorem cut_b {w : World} {mean : ExcName → Option Value} {mg mb : Str → Option Value}
  (dp un : Nat) (gd : Option (List Code)) (cn : Str) (cs : Scope) (a : Addr) (ccd : Value) (cl : List (Str × Addr)) (outer : List Env) (A₀ : Around) (base h₀ : Heap) (L : Addr) (m : Str → Option Value) (rest : List (Addr × Obj)) (s : Shared)
(c1 c2 : Addr) (oc : Obj) (vs : Array Value) (tq : Tok) (hvs : oc.data = .fields vs) (hvq : vs[1]? = some (.str QUAL tq)) (hc2 : 58 < c2)
  (x : Str) (f b : Int) (t tf tb : Tok) (Q E E' : Value → Shared → Prop)
  (B : Below A₀ base outer h₀) (F : Fr h₀ L s.heap m) (X : (hd.heap_39 w.params).In h₀) (N : News h₀ L s.heap ((58, tabObj #[rawInt 49, rawInt 12, .ref c1, rawInt 51, rawInt 17, .ref c2]) :: (c2, oc) :: rest)) (T : Top topProg LOOSE mean mg mb h₀) (hk : cs.kind = .function)
  (hx : x.length ≤ 100) (hC : CodeHd h₀ 62 58) (hl : ∀ p ∈ rest, p.1 ≠ 58) (hd : dp + 4 < recursionLimit) (hu : un + 200 < cLine)
  (ret : ∀ f' h' tk', Fr h₀ L h' m → FnAt f' h' → (∀ (tk'' : Nat) (Q' : Value → Shared → Prop), (∀ ps' tl' h'' tk'' t'', Fr h₀ L h'' m → News h₀ L h'' ((58, tabObj ps') :: (tl' ++ rest)) → TabOk ps' tl' → Q' (.str (cutOf x f b) t'') { s with heap := h'', toks := tk'' }) →
      wpAny (model PR w) (ktrTop dp un gd cn cs L a ccd cl outer) (call (.ref 21) [.ref f']) Q' E' { s with heap := h', toks := tk'' }) → Q (.ref f') { s with heap := h', toks := tk' }) :
  wpAny (model PR w) (ktrTop dp un gd cn cs L a ccd cl outer) (call (.ref 63) [.str x t, .int f tf, .int b tb]) Q E s := by
  have hz : PySem.Challenge.rw_nb0076_01 = PySem.Challenge.rw_nb0076_01 ∧ Mine.hd.heap_39 w.params = Mine.hd.heap_39 w.params := by (k_fill; exact ⟨rfl, rfl⟩)
  clear hz
  refine wpAny_call ?_
  refine' code_defC ?k1 ?k2 ?k3 ?k4 ?k5 ?kA ?kF ?kK ?k6 ?k7 ?k8 ?k9 ?kB ?kD ?_ ?c2 ?c3 ?c4; (case kA => exact rfl); (case kF => exact rfl); (case kK => assumption); (case k1 => k_asm); (case k2 => k_asm); (case k3 => k_asm); (case k4 => k_asm); (case k5 => k_asm); (case k6 => k_is); (case k7 => k_is); (case k8 => ktr_room); (case k9 => exact BindsTo.of_eq rfl); (case kB => exact rfl); (case kD => decide +kernel); (case c2 => exact rfl); (case c3 => exact rfl); (case c4 => exact rfl); k_whole
  intro g' L' h' tk' cells' FG' F' N' Y' B' X' T' l1
  (try k_lt l1)
  k_cells Y'
  (try simp only [List.cons_append, List.nil_append] at N')
  (try dsimp only)
  (try k_lift B')
  (try k_fold)
  obtain ⟨l1, l3, l2⟩ := l1
  replace l2 := allLt_mem l2
  have hC' : CodeHd g' 62 58 := hC.keeps FG'.keep
  k_steps
  refine ret _ _ _ (by k_asm) (FnAt.of (by k_asm) (by k_mem)) (fun tk9 Q9 hQ9 => ?_)
  refine wpAny_call ?_
  ktr_enter
  k_steps
  rename News _ _ _ _ => N9
  have N10 := pickB N9
  exact hQ9 _ _ _ _ _ (by k_asm) N10 (.inr ⟨_, _, _, _, _, rfl, rfl, by assumption, by assumption, by show @LT.lt Nat _ 58 _; omega⟩)
end Mine
end
section
open PySem PySem.W PyProof.Rows PySem.Calls
namespace Mine
set_option maxRecDepth 100000
set_option maxHeartbeats 4000000
def IterO (o : Obj) (l : Addr) (i : Nat) : Prop := o.cls = .type "list_iterator" ∧ o.data = .fields #[.ref l, .int i 0]
def FoEnd (h₀ : Heap) (L it : Addr) (oI : Obj) (i : Nat) (s : Shared) (st : List Str) (m : Str → Option Value) (J : Nat → (Str → Option Value) → List (Addr × Obj) → Prop) (Q : Flow → Shared → Prop) (f : Flow) (s₃ : Shared) : Prop :=
  match f with
  | .next | .cont => ∃ h' tk m' nx', s₃ = { s with heap := h', toks := tk } ∧ Fr h₀ L h' m' ∧ News h₀ L h' ((it, oI) :: nx') ∧ (∀ p ∈ nx', p.1 ≠ it) ∧ (∀ y, st.contains y = false → m' y = m y) ∧ J (i + 1) m' nx'
  | .brk => Q .next s₃
  | .ret v => Q (.ret v) s₃
section
variable {prog : Program} {w : World} {A : Around} {E : Value → Shared → Prop} {Q : Flow → Shared → Prop} {s : Shared} {env : Env} {h₀ : Heap}
theorem for_j {target iter : Expr} {body : List Stmt} {pos : Pos} {m : Str → Option Value} {news : List (Addr × Obj)} {l : Addr} {items : Array Value} {n : Nat} (st : List Str) (J : Nat → (Str → Option Value) → List (Addr × Obj) → Prop)
    (hh : A.handled = none) (F : Fr h₀ env.locals s.heap m) (N : News h₀ env.locals s.heap news) (hmem : ∀ i m₁ nx, J i m₁ nx → (l, listOf items n) ∈ nx) (hJ : J 0 m news)
    (heval : ∀ Q' : Value → Shared → Prop, Q' (.ref l) s → wpAny (model prog w) A (eval iter env) Q' E s)
    (turn : ∀ i v m₁ nx it oI h tk, items[i]? = some v → J i m₁ nx → Fr h₀ env.locals h (fun y => if st.contains y then m₁ y else m y) → News h₀ env.locals h ((it, oI) :: nx) → (∀ p ∈ nx, p.1 ≠ it) →
      wpAny (model prog w) A (assign target env v) (fun _ s₂ => wpAny (model prog w) A (execs body env) (FoEnd h₀ env.locals it oI i s st m J Q) E s₂) E { s with heap := h, toks := tk })
    (done : ∀ m₁ nx h tk, J items.size m₁ nx → Fr h₀ env.locals h (fun y => if st.contains y then m₁ y else m y) → News h₀ env.locals h nx → Q .next { s with heap := h, toks := tk })
    (hs : ∀ x, foldedSetIterable iter env x = pure x := by intro _; rfl)
    (hE : PassesOwn (model prog w) A env E := by passes_own) :
    wpAny (model prog w) A (exec (.For target iter body [] pos) env) Q E s := by
  have hl : s.heap.IsList l items := PySem.IsL.isList (n := n) (N _ (hmem _ _ _ hJ)).1
  refine wpAny_For (heval _ (wpAny_pyIter_list hl ?_)) hs
  have hlt : ∀ p ∈ news, p.1 ≠ s.heap.objs.size := fun p hp => Nat.ne_of_lt (Heap.lt_size (N p hp).1)
  have hfr : ∀ b, env.locals < b → h₀.get? b = none := fun b hb => Heap.get?_none_of_le (Nat.le_trans F.above (Nat.le_of_lt hb))
  refine codeAny_forLoop_any (fun k s' => ∃ i oI h tk m₁ nx, IterO oI l i ∧ k = items.size - i ∧ i ≤ items.size ∧ s' = { s with heap := h, toks := tk } ∧ Fr h₀ env.locals h m₁ ∧ News h₀ env.locals h ((s.heap.objs.size, oI) :: nx) ∧ (∀ p ∈ nx, p.1 ≠ s.heap.objs.size) ∧ (∀ y, st.contains y = false → m₁ y = m y) ∧ J i m₁ nx) ?_ items.size
    ⟨0, _, _, s.toks, m, news, ⟨rfl, rfl⟩, by omega, by omega, rfl, F.push _, News.push F N _, hlt, fun _ _ => rfl, hJ⟩
  rintro k s' ⟨i, oI, h, tk, m₁, nx, ⟨hI1, hI2⟩, rfl, hi, rfl, F₁, N₁, hne, hm, hJ₁⟩
  have z := N₁ _ (.head _)
  have hit : h.IsListIter s.heap.objs.size l i := ⟨_, z.1, hI1, hI2⟩
  have hm₁ := hmem _ _ _ hJ₁
  have hl₁ : h.IsList l items := PySem.IsL.isList (n := n) (N₁ _ (.tail _ hm₁)).1
  by_cases hlt' : i < items.size
  · refine wpAny_pyNext_list_item hit hl₁ (x := items[i]) (by simp [hlt']) fun h' hit' hs' => ?_
    dsimp only
    refine letGo_listiter hit' ?_
    have F₂ : Fr h₀ env.locals h' m₁ := F₁.change hs' z.2.1 z.2.2
    obtain ⟨o, ho, hc, hd⟩ := hit'
    have N₂ : News h₀ env.locals h' ((s.heap.objs.size, o) :: nx) := news_set (pre := []) N₁ (fun _ h => nomatch h) hne hs' ho
    refine wpAny_mono (turn i items[i] m₁ nx s.heap.objs.size o h' tk (by simp [hlt']) hJ₁ (fr_mix F₂ hm) N₂ hne) (fun _ s₂ h₂ => ?_) hE
    refine wpAny_mono h₂ (fun f s₃ h₃ => ?_) hE
    cases f with
    | ret v => exact h₃
    | brk => exact h₃
    | next =>
      obtain ⟨h', tk', m', nx', rfl, F', N', hne', hm', hJ'⟩ := h₃
      exact ⟨_, (by omega : items.size - (i + 1) < items.size - i), i + 1, o, h', tk', m', nx', ⟨hc, hd⟩, rfl, by omega, rfl, F', N', hne', hm', hJ'⟩
    | cont =>
      obtain ⟨h', tk', m', nx', rfl, F', N', hne', hm', hJ'⟩ := h₃
      exact ⟨_, (by omega : items.size - (i + 1) < items.size - i), i + 1, o, h', tk', m', nx', ⟨hc, hd⟩, rfl, by omega, rfl, F', N', hne', hm', hJ'⟩
  · have e : i = items.size := by omega
    subst e
    refine wpAny_pyNext_list_end hh hit hl₁ (by simp) fun h' he' => ?_
    dsimp only
    refine wpAny_execs_nil ?_
    have F₂ : Fr h₀ env.locals h' m₁ := by
      obtain ⟨oL, a1, a2, hoL, a3⟩ := F₁.ns
      exact ⟨⟨oL, a1, a2, he' _ _ z.2.1.symm hoL, a3⟩, fun b o e => he' b o (fun q => by rw [q, z.2.2] at e; cases e) (F₁.keep b o e), F₁.above⟩
    refine done m₁ nx h' tk hJ₁ (fr_mix F₂ hm) (fun p hp => ?_)
    have q := N₁ p (.tail _ hp)
    exact ⟨he' _ _ (hne p hp) q.1, q.2⟩
end
end Mine
end
section
open PySem PySem.W
namespace Mine
theorem lt_asymm' {x y : Int × Int} (h : ltP x y = true) : ltP y x = false := by
  simp [ltP] at *; omega
theorem le_trans' {x y z : Int × Int} (h1 : ltP y x = false) (h2 : ltP z y = false) : ltP z x = false := by
  simp [ltP] at *; omega
theorem lt_le' {x y z : Int × Int} (h1 : ltP x y = true) (h2 : ltP z y = false) : ltP z x = false := by
  simp [ltP] at *; omega
theorem le_refl' (x : Int × Int) : ltP x x = false := by simp [ltP]
theorem getD_set {α : Type} {l : List α} {p j : Nat} {v d : α} (hp : p < l.length) : (l.set p v).getD j d = if j = p then v else l.getD j d := by
  simp only [List.getD_eq_getElem?_getD, List.getElem?_set]
  by_cases h : j = p
  · subst h; simp [hp]
  · have h' : ¬ p = j := fun e => h e.symm
    simp [h, h']
abbrev at' (its : List Item) (j : Nat) : Int × Int := (its.getD j default).2
/-- every item is not below its parent -/
def IsHeap (its : List Item) : Prop := ∀ j, 0 < j → j < its.length → ltP (at' its j) (at' its ((j - 1) / 2)) = false
/-- as much, but for the place p -/
def Hole (its : List Item) (p : Nat) : Prop := (∀ j, 0 < j → j < its.length → j ≠ p → (j - 1) / 2 ≠ p → ltP (at' its j) (at' its ((j - 1) / 2)) = false) ∧
  (∀ j, 0 < j → j < its.length → (j - 1) / 2 = p → 0 < p → ltP (at' its j) (at' its ((p - 1) / 2)) = false)
theorem heap_sd (v : Item) (its : List Item) (p : Nat) (hp : p < its.length) (H : Hole its p) (hc : ∀ j, 0 < j → j < its.length → (j - 1) / 2 = p → ltP (at' its j) v.2 = false) : IsHeap (sdF v its p) := by
  induction p using Nat.strongRecOn generalizing its with
  | ind p ih =>
    obtain ⟨ha, hb⟩ := H
    have fin : ∀ (_ : 0 < p → ltP v.2 (at' its ((p - 1) / 2)) = false), IsHeap (its.set p v) := by
      intro hv j hj0 hj
      rw [List.length_set] at hj
      unfold at'
      rw [getD_set hp, getD_set hp]
      by_cases h1 : j = p
      · have h2 : (j - 1) / 2 ≠ p := by omega
        rw [if_pos h1, if_neg h2, h1]
        exact hv (by omega)
      · rw [if_neg h1]
        by_cases h2 : (j - 1) / 2 = p
        · rw [if_pos h2]; exact hc j hj0 hj h2
        · rw [if_neg h2]; exact ha j hj0 hj h1 h2
    rw [sdF]
    by_cases hp0 : 0 < p
    · rw [if_pos hp0]
      cases hlt : ltP v.2 (its.getD ((p - 1) / 2) default).2 with
      | false =>
        rw [if_neg (by simp)]
        exact fin fun _ => hlt
      | true =>
        rw [if_pos rfl]
        have hpp : (p - 1) / 2 < p := by omega
        have hppl : (p - 1) / 2 < its.length := by omega
        refine ih ((p - 1) / 2) hpp _ (by rw [List.length_set]; exact hppl) ⟨fun j h0 h1 h2 h3 => ?_, fun j h0 h1 h2 h3 => ?_⟩ (fun j h0 h1 h2 => ?_)
        · rw [List.length_set] at h1
          unfold at'
          rw [getD_set hp, getD_set hp]
          by_cases e1 : j = p
          · subst e1; exact absurd rfl h3
          · rw [if_neg e1]
            by_cases e2 : (j - 1) / 2 = p
            · rw [if_pos e2]; exact hb j h0 h1 e2 hp0
            · rw [if_neg e2]; exact ha j h0 h1 e1 e2
        · rw [List.length_set] at h1
          unfold at'
          rw [getD_set hp, getD_set hp]
          have e3 : ((p - 1) / 2 - 1) / 2 ≠ p := by omega
          rw [if_neg e3]
          have hq := ha ((p - 1) / 2) h3 hppl (by omega) (by omega)
          by_cases e1 : j = p
          · rw [if_pos e1]; exact hq
          · rw [if_neg e1]
            have hr := ha j h0 h1 e1 (by omega)
            rw [h2] at hr
            exact le_trans' hq hr
        · rw [List.length_set] at h1
          unfold at'
          rw [getD_set hp]
          by_cases e1 : j = p
          · rw [if_pos e1]; exact lt_asymm' hlt
          · rw [if_neg e1]
            have hr := ha j h0 h1 e1 (by omega)
            rw [h2] at hr
            exact lt_le' hlt hr
    · rw [if_neg hp0]
      exact fin fun h => absurd h hp0
theorem set_swapA {α : Type} (v d : α) : ∀ (r : List α) (c : Nat), c < r.length → (r.getD c d :: r.set c v).Perm (v :: r)
  | [], _, h => absurd h (Nat.not_lt_zero _)
  | b :: q, 0, _ => List.Perm.swap v b q
  | b :: q, c + 1, h => by
    have ih := set_swapA v d q c (Nat.lt_of_succ_lt_succ h)
    show (q.getD c d :: b :: q.set c v).Perm (v :: b :: q)
    exact (List.Perm.swap b (q.getD c d) _).trans ((ih.cons b).trans (List.Perm.swap v b q))
theorem set_swapB {α : Type} (a v : α) : ∀ (r : List α) (p : Nat), p < r.length → (v :: r.set p a).Perm (a :: r.set p v)
  | [], _, h => absurd h (Nat.not_lt_zero _)
  | b :: q, 0, _ => List.Perm.swap a v q
  | b :: q, p + 1, h => by
    have ih := set_swapB a v q p (Nat.lt_of_succ_lt_succ h)
    show (v :: b :: q.set p a).Perm (a :: b :: q.set p v)
    exact (List.Perm.swap b v _).trans ((ih.cons b).trans (List.Perm.swap a b _))
theorem set_swap {α : Type} : ∀ (l : List α) {p c : Nat} (v d : α) (_ : p < l.length) (_ : c < l.length) (_ : c ≠ p), ((l.set p (l.getD c d)).set c v).Perm (l.set p v)
  | [], _, _, _, _, h, _, _ => absurd h (Nat.not_lt_zero _)
  | a :: r, 0, 0, _, _, _, _, h => absurd rfl h
  | a :: r, 0, c + 1, v, d, _, h, _ => by
    show (r.getD c d :: r.set c v).Perm (v :: r)
    exact set_swapA v d r c (Nat.lt_of_succ_lt_succ h)
  | a :: r, p + 1, 0, v, d, h, _, _ => by
    show (v :: r.set p a).Perm (a :: r.set p v)
    exact set_swapB a v r p (Nat.lt_of_succ_lt_succ h)
  | a :: r, p + 1, c + 1, v, d, h1, h2, h3 => by
    show (a :: (r.set p (r.getD c d)).set c v).Perm (a :: r.set p v)
    exact (set_swap r v d (Nat.lt_of_succ_lt_succ h1) (Nat.lt_of_succ_lt_succ h2) (by omega)).cons a
theorem perm_sd (v : Item) (its : List Item) (p : Nat) (hp : p < its.length) : (sdF v its p).Perm (its.set p v) := by
  induction p using Nat.strongRecOn generalizing its with
  | ind p ih =>
    rw [sdF]
    by_cases hp0 : 0 < p
    · rw [if_pos hp0]
      split
      · refine (ih _ (by omega) _ (by rw [List.length_set]; omega)).trans ?_
        exact set_swap its v default hp (by omega) (by omega)
      · exact List.Perm.refl _
    · rw [if_neg hp0]
theorem ch_ne (its : List Item) (p : Nat) : chF its p ≠ p := by unfold chF; split <;> omega
theorem ch_par (its : List Item) (p : Nat) : (chF its p - 1) / 2 = p ∧ 0 < chF its p := by unfold chF; split <;> omega
theorem ch_lt (its : List Item) (p : Nat) (h : 2 * p + 1 < its.length) : chF its p < its.length := by unfold chF; split <;> omega
theorem perm_su (v : Item) (its : List Item) (p : Nat) (hp : p < its.length) : (suF v its p).Perm (its.set p v) := by
  induction h : its.length - p using Nat.strongRecOn generalizing its p with
  | ind n ih =>
    rw [suF]
    split
    · rename_i h1
      have hc := ch_lt its p h1
      have h2 := ch_par its p
      refine (ih (its.length - chF its p) (by omega) _ _ (by rw [List.length_set]; exact hc) (by rw [List.length_set])).trans ?_
      exact set_swap its v default hp hc (ch_ne its p)
    · refine (perm_sd v _ p (by rw [List.length_set]; exact hp)).trans ?_
      rw [List.set_set]
theorem heap_su (v : Item) (its : List Item) (p : Nat) (hp : p < its.length) (H : Hole its p) : IsHeap (suF v its p) := by
  induction h : its.length - p using Nat.strongRecOn generalizing its p with
  | ind n ih =>
    obtain ⟨ha, hb⟩ := H
    rw [suF]
    split
    · rename_i h1
      have hc := ch_lt its p h1
      have hcp := ch_par its p
      have hcn := ch_ne its p
      refine ih (its.length - chF its p) (by omega) _ _ (by rw [List.length_set]; exact hc) ⟨fun j h0 h1' h2 h3 => ?_, fun j h0 h1' h2 h3 => ?_⟩ (by rw [List.length_set])
      · rw [List.length_set] at h1'
        unfold at'
        rw [getD_set hp, getD_set hp]
        by_cases e1 : j = p
        · have e2 : (j - 1) / 2 ≠ p := by omega
          rw [if_pos e1, if_neg e2, e1]
          exact hb _ hcp.2 hc hcp.1 (by omega)
        · rw [if_neg e1]
          by_cases e2 : (j - 1) / 2 = p
          · rw [if_pos e2]
            -- the other child
            unfold chF at h2 ⊢
            split at h2
            · rename_i q
              rw [if_pos q]
              have : j = 2 * p + 1 := by omega
              rw [this]; exact q.2
            · rename_i q
              rw [if_neg q]
              have e3 : j = 2 * p + 2 := by omega
              rw [e3]
              cases hx : ltP (its.getD (2 * p + 1) default).2 (its.getD (2 * p + 2) default).2 with
              | false => exact absurd ⟨by omega, hx⟩ q
              | true => exact lt_asymm' hx
          · rw [if_neg e2]; exact ha j h0 h1' e1 e2
      · rw [List.length_set] at h1'
        unfold at'
        rw [getD_set hp, getD_set hp]
        rw [if_neg (by omega), if_pos hcp.1]
        have := ha j h0 h1' (by omega) (by omega)
        rw [h2] at this
        exact this
    · rename_i h1
      refine heap_sd v _ p (by rw [List.length_set]; exact hp) ⟨fun j h0 h1' h2 h3 => ?_, fun j h0 h1' h2 h3 => ?_⟩ (fun j h0 h1' h2 => ?_)
      · rw [List.length_set] at h1'
        unfold at'
        rw [getD_set hp, getD_set hp, if_neg h2, if_neg h3]
        exact ha j h0 h1' h2 h3
      · rw [List.length_set] at h1'; omega
      · rw [List.length_set] at h1'; omega
theorem heap_min {its : List Item} (H : IsHeap its) : ∀ j, j < its.length → ltP (at' its j) (at' its 0) = false := by
  intro j
  induction j using Nat.strongRecOn with
  | ind j ih =>
    intro hj
    by_cases h0 : 0 < j
    · exact le_trans' (ih ((j - 1) / 2) (by omega) (by omega)) (H j h0 hj)
    · have : j = 0 := by omega
      subst this; exact le_refl' _
theorem push_ok (v : Item) (its : List Item) (H : IsHeap its) : IsHeap (sdF v (its ++ [v]) its.length) ∧ (sdF v (its ++ [v]) its.length).Perm (v :: its) := by
  have hl : its.length < (its ++ [v]).length := by simp
  have e : ∀ j, j < its.length → at' (its ++ [v]) j = at' its j := fun j hj => by
    unfold at'; simp [List.getD_eq_getElem?_getD, List.getElem?_append, hj]
  refine ⟨heap_sd v _ _ hl ⟨fun j h0 h1 h2 h3 => ?_, fun j h0 h1 h2 h3 => ?_⟩ (fun j h0 h1 h2 => ?_), (perm_sd v _ _ hl).trans ?_⟩
  · have h4 : j < its.length := by simp at h1; omega
    rw [e j h4, e _ (by omega)]
    exact H j h0 h4
  · simp at h1; omega
  · simp at h1; omega
  · rw [show (its ++ [v]).set its.length v = its ++ [v] by simp]
    exact List.perm_append_singleton v its
theorem hole0 {its : List Item} (v : Item) (H : IsHeap its) : Hole (its.set 0 v) 0 := by
  refine ⟨fun j h0 h1 h2 h3 => ?_, fun j h0 h1 h2 h3 => absurd h3 (Nat.lt_irrefl _)⟩
  rw [List.length_set] at h1
  unfold at'
  rw [getD_set (by omega), getD_set (by omega), if_neg h2, if_neg h3]
  exact H j h0 h1
theorem rep_ok (v : Item) (its : List Item) (H : IsHeap its) (hp : 0 < its.length) : IsHeap (suF v (its.set 0 v) 0) ∧ (suF v (its.set 0 v) 0).Perm (v :: its.tail) := by
  have hl : 0 < (its.set 0 v).length := by rw [List.length_set]; exact hp
  refine ⟨heap_su v _ 0 hl (hole0 v H), (perm_su v _ 0 hl).trans ?_⟩
  rw [List.set_set]
  cases its with
  | nil => simp at hp
  | cons a r => exact List.Perm.refl _
theorem heap_pre {its : List Item} {v : Item} (H : IsHeap (its ++ [v])) : IsHeap its := fun j h0 h1 => by
  have e : ∀ j, j < its.length → at' (its ++ [v]) j = at' its j := fun j hj => by
    unfold at'; simp [List.getD_eq_getElem?_getD, List.getElem?_append, hj]
  have := H j h0 (by simp; omega)
  rw [e j h1, e _ (by omega)] at this
  exact this
theorem pop_ok (v : Item) (its : List Item) (H : IsHeap (its ++ [v])) :
    IsHeap (if its = [] then [] else suF v (its.set 0 v) 0) ∧ ((its ++ [v]).getD 0 default :: (if its = [] then [] else suF v (its.set 0 v) 0)).Perm (its ++ [v]) := by
  cases its with
  | nil => exact ⟨fun j _ h => absurd h (Nat.not_lt_zero _), List.Perm.refl _⟩
  | cons a r =>
    have h := rep_ok v (a :: r) (heap_pre H) (by simp)
    rw [if_neg (by simp)]
    refine ⟨h.1, ?_⟩
    show (a :: suF v ((a :: r).set 0 v) 0).Perm (a :: (r ++ [v]))
    exact (h.2.trans (List.perm_append_singleton v r).symm).cons a
end Mine
end
section
open PySem PySem.W PyProof.Rows
namespace Mine
theorem sl_to {x : Str} {k : Int} (h0 : 0 ≤ k) (h1 : k ≤ x.length) : (Txt.slice x none (some k)).cps.toList = x.cps.toList.take k.toNat := by
  have h := eq_of_beq (slice_closes_toL (x := x) h0 h1)
  rw [h]; simp
theorem sl_from {x : Str} {k : Int} (h0 : 0 ≤ k) (h1 : k ≤ x.length) : (Txt.slice x (some k) none).cps.toList = x.cps.toList.drop k.toNat := by
  have h := slice_from_eq (x := x) (b := x.length) h0 h1 rfl
  rw [h]
  have e : x.cps.toList.length = x.length := by simp [Str.length]
  simp only
  rw [List.take_of_length_le]
  rw [List.length_drop, e]; omega
theorem cut_list {x : Str} {k : Int} (h0 : 0 ≤ k) (h1 : k < x.length) : (cutOf x k (k + 1)).cps.toList = x.cps.toList.eraseIdx k.toNat := by
  have e : (cutOf x k (k + 1)).cps.toList = (Txt.slice x none (some k)).cps.toList ++ (Txt.slice x (some (k + 1)) none).cps.toList := by
    show ((Txt.slice x none (some k)).cps ++ (Txt.slice x (some (k + 1)) none).cps).toList = _
    rw [Array.toList_append]
  rw [e, sl_to h0 (by omega), sl_from (by omega) (by omega), List.eraseIdx_eq_take_drop_succ]
  congr 2
  omega
theorem cut_len (x : Str) (f b : Int) : (cutOf x f b).length ≤ 2 * x.length := by
  have h1 := Txt.slice_le x none (some f)
  have h2 := Txt.slice_le x (some b) none
  have e : (cutOf x f b).length = (Txt.slice x none (some f)).length + (Txt.slice x (some b) none).length := by
    unfold cutOf; rw [Str.length_append]
  omega
/-- what is left of a list when the places of a set are struck -/
def keepI {α : Type} (P : Nat → Bool) : List α → Nat → List α
  | [], _ => []
  | a :: r, i => if P i then keepI P r (i + 1) else a :: keepI P r (i + 1)
theorem keepI_none {α : Type} {P : Nat → Bool} : ∀ (l : List α) (i : Nat), (∀ j, i ≤ j → P j = false) → keepI P l i = l
  | [], _, _ => rfl
  | a :: r, i, h => by
    rw [keepI, h i (Nat.le_refl _), if_neg (by simp), keepI_none r (i + 1) fun j hj => h j (by omega)]
theorem keepI_erase {α : Type} {P : Nat → Bool} : ∀ (l : List α) (k i : Nat), (∀ j, i + k ≤ j → P j = false) → k < l.length → keepI P (l.eraseIdx k) i = keepI (fun j => P j || j == i + k) l i
  | [], _, _, _, h => absurd h (Nat.not_lt_zero _)
  | a :: r, 0, i, h, _ => by
    rw [List.eraseIdx_cons_zero, keepI_none r i fun j hj => h j (by omega), keepI]
    rw [if_pos (by simp)]
    rw [keepI_none r (i + 1) fun j hj => by rw [h j (by omega)]; simp; omega]
  | a :: r, k + 1, i, h, hl => by
    rw [List.eraseIdx_cons_succ, keepI, keepI]
    have e : (P i || i == i + (k + 1)) = P i := by
      have : (i == i + (k + 1)) = false := by simp
      rw [this, Bool.or_false]
    have ih := keepI_erase (P := P) r k (i + 1) (fun j hj => h j (by omega)) (by simpa using hl)
    have e2 : (fun j => P j || j == i + 1 + k) = fun j => P j || j == i + (k + 1) := by
      funext j; congr 2; omega
    rw [ih, e2]
    simp only [e]
theorem eraseIdx_len {α : Type} (l : List α) (k : Nat) (h : k < l.length) : (l.eraseIdx k).length = l.length - 1 := by
  rw [List.length_eraseIdx, if_pos h]
/-- the cuts, one after another -/
theorem cuts_list : ∀ (cuts : List Int) (x : Str), cuts.Pairwise (· > ·) → (∀ k ∈ cuts, 0 ≤ k ∧ k < x.length) →
    (cuts.foldl (fun t k => cutOf t k (k + 1)) x).cps.toList = keepI (fun j => decide ((j : Int) ∈ cuts)) x.cps.toList 0
  | [], x, _, _ => by
    rw [keepI_none]
    · rfl
    · intro j _; simp
  | k :: r, x, hp, hb => by
    obtain ⟨hk, hp⟩ := List.pairwise_cons.mp hp
    have hk0 := hb k (.head _)
    have ex : x.cps.toList.length = x.length := by simp [Str.length]
    have el : (cutOf x k (k + 1)).cps.toList.length = (cutOf x k (k + 1)).length := by simp [Str.length]
    have e0 := cut_list (x := x) hk0.1 hk0.2
    have e1 : (cutOf x k (k + 1)).length = x.length - 1 := by
      rw [← el, e0, eraseIdx_len _ _ (by omega), ex]
    rw [List.foldl_cons, cuts_list r _ hp (fun j hj => ⟨(hb j (.tail _ hj)).1, by have := hk j hj; omega⟩), e0, keepI_erase _ _ _ (fun j hj => ?_) (by omega)]
    · congr 1
      funext j
      have : (j == 0 + k.toNat) = decide ((j : Int) = k) := by
        by_cases h : (j : Int) = k
        · simp [h]; omega
        · simp [h]; omega
      rw [this]
      by_cases h1 : (j : Int) = k <;> by_cases h2 : (j : Int) ∈ r <;> simp [h1, h2]
    · simp only [decide_eq_false_iff_not]
      intro hm
      have := hk _ hm
      omega
end Mine
end
section
open PySem PySem.W PyProof.Rows
namespace Mine
def cov (ps : List (Int × Int)) (k : Int) : Prop := ∃ p ∈ ps, p.1 ≤ k ∧ k < p.2
def covK (ks : List (Int × Int)) (k : Int) : Prop := ∃ q ∈ ks, q.2 ≤ k ∧ k < -q.1
def meas (ks : List (Int × Int)) : Nat := (ks.map fun q => (-q.1 - q.2 + 1).toNat).sum
structure Inv (x : Str) (ps ks : List (Int × Int)) (cuts ends : List Int) (text : Str) (tot : Nat) : Prop where
  b : ∀ q ∈ ks, 0 ≤ q.2 ∧ q.2 ≤ -q.1 ∧ -q.1 ≤ x.length
  c : ∀ k, cov ps k ↔ k ∈ cuts ∨ covK ks k
  d : cuts.Pairwise (· > ·)
  e : ∀ k ∈ cuts, 0 ≤ k ∧ k < x.length ∧ ∀ q ∈ ks, -q.1 ≤ k + 1
  f : ends.Pairwise (· ≤ ·)
  g : ∀ b ∈ ends, ∀ q ∈ ks, b ≤ q.1
  t : text = cuts.foldl (fun t k => cutOf t k (k + 1)) x
  l : text.length ≤ x.length
  m : ends.length + meas ks = tot
theorem meas_perm {ks ks' : List (Int × Int)} (h : ks.Perm ks') : meas ks = meas ks' := (h.map _).sum_nat
theorem covK_perm {ks ks' : List (Int × Int)} (h : ks.Perm ks') (k : Int) : covK ks k ↔ covK ks' k :=
  ⟨fun ⟨q, hq, r⟩ => ⟨q, h.mem_iff.mp hq, r⟩, fun ⟨q, hq, r⟩ => ⟨q, h.mem_iff.mpr hq, r⟩⟩
section
variable {x text : Str} {ps ks ks' r : List (Int × Int)} {cuts ends : List Int} {tot : Nat} {q : Int × Int}
theorem Inv.perm (I : Inv x ps ks cuts ends text tot) (h : ks.Perm ks') : Inv x ps ks' cuts ends text tot where
  b := fun q hq => I.b q (h.mem_iff.mpr hq)
  c := fun k => (I.c k).trans (or_congr Iff.rfl (covK_perm h k))
  d := I.d
  e := fun k hk => ⟨(I.e k hk).1, (I.e k hk).2.1, fun q hq => (I.e k hk).2.2 q (h.mem_iff.mpr hq)⟩
  f := I.f
  g := fun b hb q hq => I.g b hb q (h.mem_iff.mpr hq)
  t := I.t
  l := I.l
  m := by rw [← meas_perm h]; exact I.m
theorem Inv.start (hb : ∀ p ∈ ps, 0 ≤ p.1 ∧ p.1 ≤ p.2 ∧ p.2 ≤ x.length) : Inv x ps (ps.map fun p => (-p.2, p.1)) [] [] x (meas (ps.map fun p => (-p.2, p.1))) where
  b := fun q hq => by
    obtain ⟨p, hp, rfl⟩ := List.mem_map.mp hq
    have := hb p hp
    simp only
    omega
  c := fun k => by
    constructor
    · rintro ⟨p, hp, h1, h2⟩
      exact .inr ⟨_, List.mem_map.mpr ⟨p, hp, rfl⟩, h1, by simpa using h2⟩
    · rintro (h | ⟨q, hq, h1, h2⟩)
      · exact absurd h List.not_mem_nil
      · obtain ⟨p, hp, rfl⟩ := List.mem_map.mp hq
        exact ⟨p, hp, h1, by simpa using h2⟩
  d := .nil
  e := fun k hk => absurd hk List.not_mem_nil
  f := .nil
  g := fun k hk => absurd hk List.not_mem_nil
  t := rfl
  l := Nat.le_refl _
  m := by simp
theorem meas_cons (q : Int × Int) (r : List (Int × Int)) : meas (q :: r) = (-q.1 - q.2 + 1).toNat + meas r := by simp [meas]
theorem ends_more (I : Inv x ps (q :: r) cuts ends text tot) : (ends ++ [q.1]).Pairwise (· ≤ ·) := by
  rw [List.pairwise_append]
  refine ⟨I.f, List.pairwise_singleton _ _, fun a ha b hb => ?_⟩
  rw [List.mem_singleton.mp hb]
  exact I.g a ha q (.head _)
theorem Inv.pop (I : Inv x ps (q :: r) cuts ends text tot) (hq : q.2 = -q.1) (hmin : ∀ p ∈ r, q.1 ≤ p.1) : Inv x ps r cuts (ends ++ [q.1]) text tot where
  b := fun p hp => I.b p (.tail _ hp)
  c := fun k => by
    rw [I.c k]
    constructor
    · rintro (h | ⟨p, hp, h1, h2⟩)
      · exact .inl h
      · rcases List.mem_cons.mp hp with rfl | hp
        · omega
        · exact .inr ⟨p, hp, h1, h2⟩
    · rintro (h | ⟨p, hp, h1, h2⟩)
      · exact .inl h
      · exact .inr ⟨p, .tail _ hp, h1, h2⟩
  d := I.d
  e := fun k hk => ⟨(I.e k hk).1, (I.e k hk).2.1, fun p hp => (I.e k hk).2.2 p (.tail _ hp)⟩
  f := ends_more I
  g := fun b hb p hp => by
    rcases List.mem_append.mp hb with hb | hb
    · exact I.g b hb p (.tail _ hp)
    · rw [List.mem_singleton.mp hb]; exact hmin p hp
  t := I.t
  l := I.l
  m := by
    have := I.m
    rw [meas_cons] at this
    rw [List.length_append, List.length_singleton]
    have : (-q.1 - q.2 + 1).toNat = 1 := by omega
    omega
theorem rep_c (I : Inv x ps (q :: r) cuts ends text tot) (hq : q.2 ≠ -q.1) (k : Int) : cov ps k ↔ (k ∈ cuts ∨ k = -q.1 - 1) ∨ covK ((q.1 + 1, q.2) :: r) k := by
  have hb := I.b q (.head _)
  rw [I.c k]
  constructor
  · rintro (h | ⟨p, hp, h1, h2⟩)
    · exact .inl (.inl h)
    · rcases List.mem_cons.mp hp with rfl | hp
      · by_cases e : k = -p.1 - 1
        · exact .inl (.inr e)
        · exact .inr ⟨_, .head _, h1, by simp only; omega⟩
      · exact .inr ⟨p, .tail _ hp, h1, h2⟩
  · rintro ((h | h) | ⟨p, hp, h1, h2⟩)
    · exact .inl h
    · exact .inr ⟨q, .head _, by omega, by omega⟩
    · rcases List.mem_cons.mp hp with rfl | hp
      · simp only at h1 h2
        exact .inr ⟨q, .head _, h1, by omega⟩
      · exact .inr ⟨p, .tail _ hp, h1, h2⟩
theorem rep_g (I : Inv x ps (q :: r) cuts ends text tot) (hmin : ∀ p ∈ r, q.1 ≤ p.1) : ∀ b ∈ ends ++ [q.1], ∀ p ∈ (q.1 + 1, q.2) :: r, b ≤ p.1 := by
  intro b hb p hp
  have h0 : ∀ b ∈ ends ++ [q.1], b ≤ q.1 := fun b hb => by
    rcases List.mem_append.mp hb with hb | hb
    · exact I.g b hb q (.head _)
    · rw [List.mem_singleton.mp hb]; exact Int.le_refl _
  have h1 := h0 b hb
  rcases List.mem_cons.mp hp with rfl | hp
  · simp only; omega
  · have := hmin p hp; omega
theorem rep_m (I : Inv x ps (q :: r) cuts ends text tot) (hq : q.2 ≠ -q.1) : (ends ++ [q.1]).length + meas ((q.1 + 1, q.2) :: r) = tot := by
  have h := I.m
  have hb := I.b q (.head _)
  rw [meas_cons] at h ⊢
  rw [List.length_append, List.length_singleton]
  have : (-(q.1 + 1) - q.2 + 1).toNat + 1 = (-q.1 - q.2 + 1).toNat := by omega
  simp only
  omega
theorem rep_b (I : Inv x ps (q :: r) cuts ends text tot) (hq : q.2 ≠ -q.1) : ∀ p ∈ (q.1 + 1, q.2) :: r, 0 ≤ p.2 ∧ p.2 ≤ -p.1 ∧ -p.1 ≤ x.length := by
  intro p hp
  have hb := I.b q (.head _)
  rcases List.mem_cons.mp hp with rfl | hp
  · simp only; omega
  · exact I.b p (.tail _ hp)
theorem Inv.rep_old (I : Inv x ps (q :: r) cuts ends text tot) (hq : q.2 ≠ -q.1) (hmin : ∀ p ∈ r, q.1 ≤ p.1) (hm : -q.1 - 1 ∈ cuts) : Inv x ps ((q.1 + 1, q.2) :: r) cuts (ends ++ [q.1]) text tot where
  b := rep_b I hq
  c := fun k => by
    rw [rep_c I hq k]
    refine or_congr ⟨?_, .inl⟩ Iff.rfl
    rintro (h | rfl)
    · exact h
    · exact hm
  d := I.d
  e := fun k hk => by
    have h := I.e k hk
    refine ⟨h.1, h.2.1, fun p hp => ?_⟩
    rcases List.mem_cons.mp hp with rfl | hp
    · have := h.2.2 q (.head _); simp only; omega
    · exact h.2.2 p (.tail _ hp)
  f := ends_more I
  g := rep_g I hmin
  t := I.t
  l := I.l
  m := rep_m I hq
theorem Inv.rep_new (I : Inv x ps (q :: r) cuts ends text tot) (hq : q.2 ≠ -q.1) (hmin : ∀ p ∈ r, q.1 ≤ p.1) (hm : -q.1 - 1 ∉ cuts) : Inv x ps ((q.1 + 1, q.2) :: r) (cuts ++ [-q.1 - 1]) (ends ++ [q.1]) (cutOf text (-q.1 - 1) (-q.1)) tot := by
  have hb := I.b q (.head _)
  have hgt : ∀ k ∈ cuts, -q.1 - 1 < k := fun k hk => by
    have h := (I.e k hk).2.2 q (.head _)
    have : k ≠ -q.1 - 1 := fun e => hm (e ▸ hk)
    omega
  have hd : (cuts ++ [-q.1 - 1]).Pairwise (· > ·) := by
    rw [List.pairwise_append]
    refine ⟨I.d, List.pairwise_singleton _ _, fun a ha b hb => ?_⟩
    rw [List.mem_singleton.mp hb]
    exact hgt a ha
  have hr : ∀ k ∈ cuts ++ [-q.1 - 1], 0 ≤ k ∧ k < x.length := fun k hk => by
    rcases List.mem_append.mp hk with hk | hk
    · exact ⟨(I.e k hk).1, (I.e k hk).2.1⟩
    · rw [List.mem_singleton.mp hk]; omega
  have ht : cutOf text (-q.1 - 1) (-q.1) = (cuts ++ [-q.1 - 1]).foldl (fun t k => cutOf t k (k + 1)) x := by
    rw [List.foldl_append, ← I.t]
    simp only [List.foldl_cons, List.foldl_nil]
    congr 1
    omega
  refine ⟨rep_b I hq, fun k => ?_, hd, fun k hk => ⟨(hr k hk).1, (hr k hk).2, fun p hp => ?_⟩, ends_more I, rep_g I hmin, ht, ?_, rep_m I hq⟩
  · rw [rep_c I hq k]
    refine or_congr ?_ Iff.rfl
    rw [List.mem_append, List.mem_singleton]
  · have hmx : ∀ p ∈ (q.1 + 1, q.2) :: r, -p.1 ≤ -q.1 := fun p hp => by
      rcases List.mem_cons.mp hp with rfl | hp
      · simp only; omega
      · have := hmin p hp; omega
    have h1 := hmx p hp
    rcases List.mem_append.mp hk with hk | hk
    · have := hgt k hk; omega
    · rw [List.mem_singleton.mp hk]; omega
  · have e1 := cuts_list (cuts ++ [-q.1 - 1]) x hd hr
    rw [← ht] at e1
    have e2 : (cutOf text (-q.1 - 1) (-q.1)).length = (keepI (fun j => decide ((j : Int) ∈ cuts ++ [-q.1 - 1])) x.cps.toList 0).length := by
      rw [← e1]; simp [Str.length]
    have e3 : ∀ (P : Nat → Bool) (l : List Nat) (i : Nat), (keepI P l i).length ≤ l.length := by
      intro P l
      induction l with
      | nil => intro i; exact Nat.le_refl _
      | cons a r ih =>
        intro i
        rw [keepI]
        have := ih (i + 1)
        split <;> simp <;> omega
    have e4 := e3 (fun j => decide ((j : Int) ∈ cuts ++ [-q.1 - 1])) x.cps.toList 0
    rw [e2]
    simpa [Str.length] using e4
/-- the last cut is the place itself, or the place is not yet cut -/
theorem Inv.last (I : Inv x ps (q :: r) cuts ends text tot) (hne : cuts ≠ []) : cuts.getLastD 0 = -q.1 - 1 ∨ -q.1 - 1 ∉ cuts := by
  by_cases hm : -q.1 - 1 ∈ cuts
  · left
    have hl : cuts.getLast hne ∈ cuts := List.getLast_mem hne
    have e : cuts.getLastD 0 = cuts.getLast hne := by
      cases cuts with
      | nil => exact absurd rfl hne
      | cons a r => rfl
    rw [e]
    have h1 := (I.e _ hl).2.2 q (.head _)
    have h2 : ∀ (l : List Int) (hn : l ≠ []) (k : Int), l.Pairwise (· > ·) → k ∈ l → l.getLast hn ≤ k := by
      intro l
      induction l with
      | nil => intro hn; exact absurd rfl hn
      | cons a r ih =>
        intro hn k hp hk
        obtain ⟨ha, hp⟩ := List.pairwise_cons.mp hp
        by_cases hr : r = []
        · subst hr
          simp at hk ⊢; omega
        · rw [List.getLast_cons hr]
          rcases List.mem_cons.mp hk with rfl | hk
          · have := ha _ (List.getLast_mem hr); omega
          · exact ih hr k hp hk
    have := h2 cuts hne _ I.d hm
    omega
  · exact .inr hm
end
end Mine
end
section
open PySem PySem.W PyProof.Rows PySem.Calls PySem.Spec PySem.SeqAt
namespace Mine
set_option maxRecDepth 100000
theorem News.sub {h₀ h : Heap} {L : Addr} {a b : List (Addr × Obj)} (N : News h₀ L h a) (hs : ∀ p ∈ b, p ∈ a) : News h₀ L h b := fun p hp => N p (hs p hp)
def keyOf (i : Item) : Int × Int := (-i.2.2, i.2.1)
theorem tailList {h₀ h : Heap} {L a : Addr} {news tl : List (Addr × Obj)} {its : Array Value} {n : Nat} (N : News h₀ L h news) (hm : (a, listOf its n) ∈ tl) (hs : ∀ p ∈ tl, p ∈ news) : h.IsList a its :=
  PySem.IsL.isList (n := n) (N _ (hs _ hm)).1
abbrev datOf (its : List Item) : List PyData := its.map fun i => .list [.int i.2.1, .int i.2.2]
theorem reads_item {h₀ h : Heap} {L : Addr} {news tl : List (Addr × Obj)} {i : Item} (N : News h₀ L h news) (hs : ∀ p ∈ tl, p ∈ news) (hi : ItemIn tl i) : Reads h (.ref i.1) (.list [.int i.2.1, .int i.2.2]) [i.1] := by
  obtain ⟨t, u, n, hm⟩ := hi
  exact Reads.list (N _ (hs _ hm)).1 rfl rfl (.cons (.int _ _) (.cons (.int _ _) .nil))
theorem reads_items {h₀ h : Heap} {L : Addr} {news tl : List (Addr × Obj)} (N : News h₀ L h news) (hs : ∀ p ∈ tl, p ∈ news) : ∀ its : List Item, ItemsIn tl its → ReadsAll h (its.map fun i => Value.ref i.1) (datOf its) (its.map (·.1))
  | [], _ => .nil
  | i :: r, hi => .cons (as := [i.1]) (reads_item N hs (hi i (.head _))) (reads_items N hs r fun j hj => hi j (.tail _ hj))
theorem canLay_items : ∀ its : List Item, PyData.canLayAll0 (datOf its) = true
  | [] => by simp [PyData.canLayAll0]
  | i :: r => by simp [PyData.canLayAll0, PyData.canLay0, canLay_items r]
theorem depth_items : ∀ its : List Item, PyData.depthAll (datOf its) ≤ 2
  | [] => by simp [PyData.depthAll]
  | i :: r => by
    have := depth_items r
    simp only [datOf, List.map_cons, PyData.depthAll, PyData.depth] at this ⊢
    omega
theorem shaped_items (its : List Item) : shaped (.list (datOf its)) = true := by
  have h1 := depth_items its
  have h2 : PyData.depth (.list (datOf its)) ≤ 64 := by simp only [PyData.depth]; omega
  show (PyData.canLay0 (.list (datOf its)) && decide (PyData.depth (.list (datOf its)) ≤ 64)) = true
  rw [Bool.and_eq_true]
  exact ⟨by simp only [PyData.canLay0]; exact canLay_items its, decide_eq_true h2⟩
theorem heap_ne {prog : Program} {w : World} {A : Around} {E : Value → Shared → Prop} {s : Shared} {h₀ : Heap} {L l e : Addr} {news tl : List (Addr × Obj)} {its : List Item} {n k : Nat} {Q : Value → Shared → Prop}
    (N : News h₀ L s.heap news) (hm : (l, listOf (vals its) n) ∈ news) (he : (e, listOf #[] k) ∈ news) (hs : ∀ p ∈ tl, p ∈ news) (hi : ItemsIn tl its) (hu : A.units + 64 < cLine)
    (h : Q (.bool (decide (0 < its.length))) s) : wpAny (model prog w) A (compareOp .NotEq (.ref l) (.ref e)) Q E s := by
  refine ne_dataH (da := .list (datOf its)) (db := .list []) (Reads.list (N _ hm).1 rfl rfl (by simpa [vals] using reads_items N hs its hi)) (Reads.list (N _ he).1 rfl rfl .nil) (shaped_items its) (by decide) hu ?_
  have e : (!PyData.eqv (.list (datOf its)) (.list [])) = decide (0 < its.length) := by
    cases its with
    | nil => simp [datOf, PyData.eqv, PyData.eqvAll]
    | cons i r => simp [datOf, PyData.eqv, PyData.eqvAll]
  rw [e]; exact h
def TabIn (ps : Array Value) (tl : List (Addr × Obj)) : Prop := ps = #[] ∨ ∃ c1 c2 oc vs t, ps = #[rawInt 49, rawInt 12, .ref c1, rawInt 51, rawInt 17, .ref c2] ∧ (c2, oc) ∈ tl ∧ oc.data = .fields vs ∧ vs[1]? = some (.str QUAL t) ∧ 58 < c2
theorem TabOk.in {ps : Array Value} {tl rest : List (Addr × Obj)} (h : TabOk ps tl) (hs : ∀ p ∈ tl, p ∈ rest) : TabIn ps rest := by
  rcases h with ⟨rfl, _⟩ | ⟨c1, c2, oc, vs, t, rfl, rfl, h3, h4, h5⟩
  · exact .inl rfl
  · exact .inr ⟨c1, c2, oc, vs, t, rfl, hs _ (.head _), h3, h4, h5⟩
theorem TabIn.mono {ps : Array Value} {tl rest : List (Addr × Obj)} (h : TabIn ps tl) (hs : ∀ p ∈ tl, p ∈ rest) : TabIn ps rest := by
  rcases h with rfl | ⟨c1, c2, oc, vs, t, rfl, h2, h3, h4, h5⟩
  · exact .inl rfl
  · exact .inr ⟨c1, c2, oc, vs, t, rfl, hs _ h2, h3, h4, h5⟩
end Mine
end
section
open PySem PySem.W PyProof.Rows PySem.Calls
namespace Mine
set_option maxRecDepth 100000
set_option maxHeartbeats 8000000
theorem cut_d {w : World} {mean : ExcName → Option Value} {mg mb : Str → Option Value}
  (dp un : Nat) (gd : Option (List Code)) (cn : Str) (cs : Scope) (a : Addr) (ccd : Value) (cl : List (Str × Addr)) (outer : List Env) (A₀ : Around) (base h₀ : Heap) (L : Addr) (m : Str → Option Value) (rest : List (Addr × Obj)) (s : Shared)
  (ps : Array Value) (x : Str) (f b : Int) (t tf tb : Tok) (Q E : Value → Shared → Prop)
  (B : Below A₀ base outer h₀) (F : Fr h₀ L s.heap m) (X : (hd.heap_39 w.params).In h₀) (N : News h₀ L s.heap ((58, tabObj ps) :: rest)) (T : Top topProg LOOSE mean mg mb h₀) (hk : cs.kind = .function)
  (hT : TabIn ps rest) (hx : x.length ≤ 100) (hC : CodeHd h₀ 62 58) (hl : ∀ p ∈ rest, p.1 ≠ 58) (hd : dp + 4 < recursionLimit) (hu : un + 200 < cLine)
  (ret : ∀ f' h' tk', Fr h₀ L h' m → FnAt f' h' → (∀ (tk'' : Nat) (Q' : Value → Shared → Prop), (∀ ps' tl' h'' tk'' t'', Fr h₀ L h'' m → News h₀ L h'' ((58, tabObj ps') :: (tl' ++ rest)) → TabIn ps' (tl' ++ rest) → (∀ p ∈ tl', ∃ vs, p.2.data = .fields vs) → (∀ p ∈ tl', 58 < p.1) → Q' (.str (cutOf x f b) t'') { s with heap := h'', toks := tk'' }) →
      wpAny (model PR w) (ktrTop dp un gd cn cs L a ccd cl outer) (call (.ref 21) [.ref f']) Q' E { s with heap := h', toks := tk'' }) → Q (.ref f') { s with heap := h', toks := tk' }) :
  wpAny (model PR w) (ktrTop dp un gd cn cs L a ccd cl outer) (call (.ref 63) [.str x t, .int f tf, .int b tb]) Q E s := by
  have post : ∀ ps' tl', TabOk ps' tl' → (∀ p ∈ tl', ∃ vs, p.2.data = .fields vs) ∧ (∀ p ∈ tl', 58 < p.1) := by
    rintro ps' tl' (⟨_, rfl⟩ | ⟨c1, c2, oc, vs, t, _, rfl, h3, _, h5⟩)
    · exact ⟨(fun _ h => nomatch h), (fun _ h => nomatch h)⟩
    · refine ⟨fun p hp => ?_, fun p hp => ?_⟩
      · rw [List.mem_singleton.mp hp]; exact ⟨vs, h3⟩
      · rw [List.mem_singleton.mp hp]; exact h5
  rcases hT with rfl | ⟨c1, c2, oc, vs, tq, rfl, hm, h3, h4, h5⟩
  · refine cut_a dp un gd cn cs a ccd cl outer A₀ base h₀ L m rest s x f b t tf tb Q E E B F X N T hk hx hC hl hd hu fun f' h' tk' F' FA G => ret f' h' tk' F' FA fun tk'' Q' hQ' => G tk'' Q' fun ps' tl' h'' tk3 t3 F3 N3 hO => hQ' ps' tl' h'' tk3 t3 F3 N3 (hO.in fun p hp => List.mem_append_left _ hp) (post ps' tl' hO).1 (post ps' tl' hO).2
  · refine cut_b dp un gd cn cs a ccd cl outer A₀ base h₀ L m rest s c1 c2 oc vs tq h3 h4 h5 x f b t tf tb Q E E B F X (News.sub N fun p hp => ?_) T hk hx hC hl hd hu fun f' h' tk' F' FA G => ret f' h' tk' F' FA fun tk'' Q' hQ' => G tk'' Q' fun ps' tl' h'' tk3 t3 F3 N3 hO => hQ' ps' tl' h'' tk3 t3 F3 N3 (hO.in fun p hp => List.mem_append_left _ hp) (post ps' tl' hO).1 (post ps' tl' hO).2
    rcases List.mem_cons.mp hp with rfl | hp
    · exact .head _
    · rcases List.mem_cons.mp hp with rfl | hp
      · exact .tail _ hm
      · exact .tail _ hp
theorem ne_data {h₀ h : Heap} {L a b : Addr} {o o' : Obj} {news : List (Addr × Obj)} (N : News h₀ L h news) (ha : (a, o) ∈ news) (hb : (b, o') ∈ news) (hd : o.data ≠ o'.data) : a ≠ b := fun e => by
  subst e
  have h1 := (N _ ha).1
  have h2 := (N _ hb).1
  simp only at h1 h2
  rw [h1] at h2
  exact hd (congrArg Obj.data (Option.some.inj h2))
theorem cutN {h₀ h : Heap} {L lh lc le : Addr} {a b : Addr × Obj} {oh oe ot : Obj} {vs : List Value} {v : Value} {n : Nat} {tl : List (Addr × Obj)}
    (N : News h₀ L h (a :: b :: (lh, oh) :: (lc, listOf (vs.toArray.push v) n) :: (le, oe) :: (58, ot) :: tl)) :
    News h₀ L h ((58, ot) :: (lh, oh) :: (lc, listOf (vs ++ [v]).toArray n) :: (le, oe) :: tl) := by
  have e : vs.toArray.push v = (vs ++ [v]).toArray := by simp
  rw [e] at N
  refine News.sub N fun p hp => ?_
  simp only [List.mem_cons] at hp ⊢
  rcases hp with rfl | rfl | rfl | rfl | hp
  · exact .inr (.inr (.inr (.inr (.inr (.inl rfl)))))
  · exact .inr (.inr (.inl rfl))
  · exact .inr (.inr (.inr (.inl rfl)))
  · exact .inr (.inr (.inr (.inr (.inl rfl))))
  · exact .inr (.inr (.inr (.inr (.inr (.inr hp)))))
theorem cutN2 {h₀ h : Heap} {L lh lc le : Addr} {a b : Addr × Obj} {oh oe ot : Obj} {vs : List Value} {k : Int} {t : Tok} {n : Nat} {tl : List (Addr × Obj)} {cuts : List Int}
    (N : News h₀ L h (a :: b :: (lh, oh) :: (lc, listOf (vs.toArray.push (.int k t)) n) :: (le, oe) :: (58, ot) :: tl)) (hi : IntsAre vs cuts) :
    ∃ vs', IntsAre vs' (cuts ++ [k]) ∧ News h₀ L h ((58, ot) :: (lh, oh) :: (lc, listOf vs'.toArray n) :: (le, oe) :: tl) := ⟨_, IntsAre.append hi (.cons k t .nil), cutN N⟩
theorem tl_ne {h₀ h : Heap} {L l : Addr} {news tl' : List (Addr × Obj)} {o : Array Value} {n : Nat} (N : News h₀ L h news) (hs : ∀ p ∈ tl', p ∈ news) (hfl : ∀ p ∈ tl', ∃ vs, p.2.data = .fields vs) (hm : (l, listOf o n) ∈ news) : ∀ p ∈ tl', p.1 ≠ l := by
  intro p hp
  obtain ⟨vs, e⟩ := hfl p hp
  exact ne_data N (hs p hp) hm (by rw [e]; exact fun h => nomatch h)
theorem all_app {P : Addr × Obj → Prop} {a b : List (Addr × Obj)} (ha : ∀ p ∈ a, P p) (hb : ∀ p ∈ b, P p) : ∀ p ∈ a ++ b, P p := fun p hp => (List.mem_append.mp hp).elim (ha p) (hb p)
theorem repN {h₀ h : Heap} {L : Addr} {ov oh oc oe ot : Addr × Obj} {tl : List (Addr × Obj)} (N : News h₀ L h (ov :: oh :: oc :: oe :: ot :: tl)) : News h₀ L h (oh :: ov :: oc :: oe :: ot :: tl) := by
  refine News.sub N fun p hp => ?_
  simp only [List.mem_cons] at hp ⊢
  rcases hp with rfl | rfl | hp
  · exact .inr (.inl rfl)
  · exact .inl rfl
  · exact .inr (.inr hp)
theorem repN2 {h₀ h : Heap} {L : Addr} {a b ov oh oc oe ot : Addr × Obj} {tl : List (Addr × Obj)} (N : News h₀ L h (ov :: a :: b :: oh :: oc :: oe :: ot :: tl)) : News h₀ L h (oh :: ov :: oc :: oe :: ot :: tl) := by
  refine News.sub N fun p hp => ?_
  simp only [List.mem_cons] at hp ⊢
  rcases hp with rfl | rfl | hp
  · exact .inr (.inr (.inr (.inl rfl)))
  · exact .inl rfl
  · exact .inr (.inr (.inr (.inr hp)))
theorem endN {h₀ h : Heap} {L le : Addr} {a ov oh oc ot : Addr × Obj} {vs : List Value} {v : Value} {n : Nat} {tl : List (Addr × Obj)} (N : News h₀ L h (a :: oh :: ov :: oc :: (le, listOf (vs.toArray.push v) n) :: ot :: tl)) :
    News h₀ L h (oh :: oc :: (le, listOf (vs ++ [v]).toArray n) :: ot :: (ov :: tl)) := by
  have e : vs.toArray.push v = (vs ++ [v]).toArray := by simp
  rw [e] at N
  refine News.sub N fun p hp => ?_
  simp only [List.mem_cons] at hp ⊢
  rcases hp with rfl | rfl | rfl | rfl | rfl | hp
  · exact .inr (.inl rfl)
  · exact .inr (.inr (.inr (.inl rfl)))
  · exact .inr (.inr (.inr (.inr (.inl rfl))))
  · exact .inr (.inr (.inr (.inr (.inr (.inl rfl)))))
  · exact .inr (.inr (.inl rfl))
  · exact .inr (.inr (.inr (.inr (.inr (.inr hp)))))
theorem exitN {h₀ h : Heap} {L : Addr} {r d e hh c le t : Addr × Obj} {tl : List (Addr × Obj)} (N : News h₀ L h (r :: d :: e :: hh :: c :: le :: t :: tl)) : News h₀ L h (r :: c :: t :: tl) := by
  refine News.sub N fun p hp => ?_
  simp only [List.mem_cons] at hp ⊢
  rcases hp with rfl | rfl | rfl | hp
  · exact .inl rfl
  · exact .inr (.inr (.inr (.inr (.inl rfl))))
  · exact .inr (.inr (.inr (.inr (.inr (.inr (.inl rfl))))))
  · exact .inr (.inr (.inr (.inr (.inr (.inr (.inr hp))))))
theorem cutM {h₀ h : Heap} {L lh lc le : Addr} {oh oc oe ot : Obj} {tl' tl : List (Addr × Obj)}
    (N : News h₀ L h ((58, ot) :: (tl' ++ (lh, oh) :: (lc, oc) :: (le, oe) :: tl))) :
    News h₀ L h ((lh, oh) :: (lc, oc) :: (le, oe) :: (58, ot) :: (tl' ++ tl)) := by
  refine News.sub N fun p hp => ?_
  simp only [List.mem_cons, List.mem_append] at hp ⊢
  rcases hp with rfl | rfl | rfl | rfl | hp | hp
  · exact .inr (.inr (.inl rfl))
  · exact .inr (.inr (.inr (.inl rfl)))
  · exact .inr (.inr (.inr (.inr (.inl rfl))))
  · exact .inl rfl
  · exact .inr (.inl hp)
  · exact .inr (.inr (.inr (.inr (.inr hp))))
theorem tab_strip {ps : Array Value} {lh lc le : Addr} {v1 v2 v3 : Array Value} {n1 n2 n3 : Nat} {tl' tl : List (Addr × Obj)} (h : TabIn ps (tl' ++ (lh, listOf v1 n1) :: (lc, listOf v2 n2) :: (le, listOf v3 n3) :: tl)) : TabIn ps (tl' ++ tl) := by
  rcases h with rfl | ⟨c1, c2, oc, vs, t, rfl, h2, h3, h4, h5⟩
  · exact .inl rfl
  · refine .inr ⟨c1, c2, oc, vs, t, rfl, ?_, h3, h4, h5⟩
    simp only [List.mem_cons, List.mem_append] at h2 ⊢
    rcases h2 with h2 | h2 | h2 | h2 | h2
    · exact .inl h2
    · cases h2; cases h3
    · cases h2; cases h3
    · cases h2; cases h3
    · exact .inr h2
end Mine
end
section
open PySem PySem.W PyProof.Rows PySem.Calls PySem.Spec PySem.SeqAt
namespace Mine
set_option maxRecDepth 100000
section
variable {prog : Program} {w : World} {A : Around} {E : Value → Shared → Prop} {s : Shared} {h₀ : Heap} {L l e : Addr} {news tl : List (Addr × Obj)} {vs us : List Value} {ns ms : List Int} {n k : Nat}
theorem in_len {Q : Value → Shared → Prop} (N : News h₀ L s.heap news) (hm : (l, listOf vs.toArray n) ∈ news) (hi : IntsAre vs ns) (hb : ns.length ≤ 100) (h : Q (.int ns.length (s.toks + 1)) { s with toks := s.toks + 1 + 1 }) :
    wpAny (model prog w) A (call (.builtin "len") [.ref l]) Q E s := by
  have hl : s.heap.IsList l vs.toArray := PySem.IsL.isList (n := n) (N _ hm).1
  have e : vs.toArray.size = ns.length := by rw [List.size_toArray]; exact hi.length
  exact len_list hl (by omega) (by rw [e]; exact h)
theorem in_eq {Q : Value → Shared → Prop} (N : News h₀ L s.heap news) (hm : (l, listOf vs.toArray n) ∈ news) (hi : IntsAre vs ns) (hm' : (e, listOf us.toArray k) ∈ news) (hi' : IntsAre us ms) (hu : A.units + 64 < cLine)
    (h : Q (.bool (decide (ns = ms))) s) : wpAny (model prog w) A (compareOp .Eq (.ref l) (.ref e)) Q E s :=
  eq_intsK (PySem.IsL.isList (n := n) (N _ hm).1) hi (PySem.IsL.isList (n := k) (N _ hm').1) hi' hu h
theorem in_last {value slice : PySem.Expr} {u : Tok} {Q : Value → Shared → Prop} (N : News h₀ L s.heap news) (hm : (l, listOf vs.toArray n) ∈ news) (hi : IntsAre vs ns) (hne : ns ≠ []) (hb : ns.length ≤ 100) (h : ∀ t, Q (.int (ns.getLastD 0) t) s)
    (hs : subscripted slice false (.ref l) (.int (-1) u) = operate [.ref l, .int (-1) u] (getItem (.ref l) (.int (-1) u)) := by with_unfolding_all rfl) :
    wpAny (model prog w) A (subscriptTail value slice (.ref l) (.int (-1) u)) Q E s := by
  have hl : s.heap.IsList l vs.toArray := PySem.IsL.isList (n := n) (N _ hm).1
  have hlen := hi.length
  have hpos : 0 < vs.length := by
    rw [hlen]
    cases ns with
    | nil => exact absurd rfl hne
    | cons a r => simp
  obtain ⟨y, t, e1, e2, _⟩ := kpa_ints hi hpos
  subst e2
  have hx : vs[vs.length - 1]? = some (.int (ns.getLastD 0) t) := by
    rw [e1]; simp
  refine tail_any hl.typeIs slot_list_getitem.lookup (wpAny_getItem_list_neg hl (by decide) (by rw [List.size_toArray]; omega) (by decide) ?_ (h t)) hs
  rw [List.size_toArray, List.getElem?_toArray]
  rw [← hx]
  congr 1
  omega
theorem pair_ne {x y x' y' : Int} {t u t' u' : Tok} {Q : Value → Shared → Prop} (N : News h₀ L s.heap news) (hm : (l, listOf #[.int x t, .int y u] n) ∈ tl) (hs : ∀ p ∈ tl, p ∈ news) (hm' : (e, listOf #[.int x' t', .int y' u'] k) ∈ news) (hu : A.units + 64 < cLine)
    (h : Q (.bool (!decide ([x, y] = [x', y']))) s) : wpAny (model prog w) A (compareOp .NotEq (.ref l) (.ref e)) Q E s :=
  ne_intsK (vs := [.int x t, .int y u]) (us := [.int x' t', .int y' u']) (PySem.IsL.isList (n := n) (N _ (hs _ hm)).1) (.cons _ _ (.cons _ _ .nil)) (PySem.IsL.isList (n := k) (N _ hm').1) (.cons _ _ (.cons _ _ .nil)) hu h
end
theorem sorted_eq {a b : List Int} (h : a.Perm b) (ha : a.Pairwise (· ≤ ·)) (hb : b.Pairwise (· ≤ ·)) : b = a := by
  exact (h.eq_of_pairwise (fun a b _ _ h1 h2 => Int.le_antisymm h1 h2) ha hb).symm
end Mine
end
section
open PySem PySem.W PyProof.Rows
namespace Mine
theorem desc_len : ∀ (l : List Int) (n : Nat), l.Pairwise (· > ·) → (∀ k ∈ l, 0 ≤ k ∧ k < n) → l.length ≤ n
  | [], _, _, _ => Nat.zero_le _
  | k :: r, n, hp, hb => by
    obtain ⟨h1, h2⟩ := List.pairwise_cons.mp hp
    have hk := hb k (.head _)
    have := desc_len r k.toNat h2 fun j hj => ⟨(hb j (.tail _ hj)).1, by have := h1 j hj; omega⟩
    rw [List.length_cons]; omega
theorem root_min {i0 : Item} {r : List Item} (H : IsHeap (i0 :: r)) : ∀ p ∈ r.map (·.2), i0.2.1 ≤ p.1 := by
  intro p hp
  obtain ⟨i, hi, rfl⟩ := List.mem_map.mp hp
  obtain ⟨j, hj, rfl⟩ := List.getElem_of_mem hi
  have h := heap_min H (j + 1) (by simp; omega)
  have e : at' (i0 :: r) (j + 1) = r[j].2 := by simp [at', List.getD_eq_getElem?_getD, hj]
  have e0 : at' (i0 :: r) 0 = i0.2 := rfl
  rw [e, e0] at h
  simp [ltP] at h
  omega
section
variable {x text : Str} {P : List (Int × Int)} {its its' : List Item} {cuts ends : List Int} {tot : Nat} {v : Item}
theorem turn_pop (hI : Inv x P (its.map (·.2)) cuts ends text tot) (hH : IsHeap its) (h0 : 0 < its.length) (hq : (its.getD 0 default).2.2 = -(its.getD 0 default).2.1) (hP : (its.getD 0 default :: its').Perm its) :
    Inv x P (its'.map (·.2)) cuts (ends ++ [(its.getD 0 default).2.1]) text tot ∧ meas (its'.map (·.2)) < meas (its.map (·.2)) ∧ its'.length ≤ its.length ∧ ∀ i ∈ its', i ∈ its := by
  cases its with
  | nil => simp at h0
  | cons i0 r =>
    have hP' : its'.Perm r := List.Perm.cons_inv hP
    have hJ := Inv.pop hI hq (root_min hH)
    have hJ' := hJ.perm (hP'.map (·.2)).symm
    have h1 := hI.m
    have h2 := hJ'.m
    rw [List.length_append, List.length_singleton] at h2
    refine ⟨hJ', by omega, by rw [hP'.length_eq]; simp, fun i hi => .tail _ (hP'.mem_iff.mp hi)⟩
theorem turn_new (hI : Inv x P (its.map (·.2)) cuts ends text tot) (hH : IsHeap its) (h0 : 0 < its.length) (hq : (its.getD 0 default).2.2 ≠ -(its.getD 0 default).2.1) (hm : -(its.getD 0 default).2.1 - 1 ∉ cuts)
    (hv : v.2 = ((its.getD 0 default).2.1 + 1, (its.getD 0 default).2.2)) (hP : its'.Perm (v :: its.tail)) :
    Inv x P (its'.map (·.2)) (cuts ++ [-(its.getD 0 default).2.1 - 1]) (ends ++ [(its.getD 0 default).2.1]) (cutOf text (-(its.getD 0 default).2.1 - 1) (-(its.getD 0 default).2.1)) tot ∧ meas (its'.map (·.2)) < meas (its.map (·.2)) ∧ its'.length ≤ its.length ∧ ∀ i ∈ its', i = v ∨ i ∈ its := by
  cases its with
  | nil => simp at h0
  | cons i0 r =>
    have hJ := Inv.rep_new hI hq (root_min hH) hm
    have hP2 : (its'.map (·.2)).Perm ((i0.2.1 + 1, i0.2.2) :: r.map (·.2)) := by
      have := hP.map (·.2)
      rw [List.map_cons, hv] at this
      exact this
    have hJ' := hJ.perm hP2.symm
    have h1 := hI.m
    have h2 := hJ'.m
    rw [List.length_append, List.length_singleton] at h2
    refine ⟨hJ', by omega, by rw [hP.length_eq]; simp, fun i hi => ?_⟩
    rcases List.mem_cons.mp (hP.mem_iff.mp hi) with h | h
    · exact .inl h
    · exact .inr (.tail _ h)
theorem turn_old (hI : Inv x P (its.map (·.2)) cuts ends text tot) (hH : IsHeap its) (h0 : 0 < its.length) (hq : (its.getD 0 default).2.2 ≠ -(its.getD 0 default).2.1) (hm : -(its.getD 0 default).2.1 - 1 ∈ cuts)
    (hv : v.2 = ((its.getD 0 default).2.1 + 1, (its.getD 0 default).2.2)) (hP : its'.Perm (v :: its.tail)) :
    Inv x P (its'.map (·.2)) cuts (ends ++ [(its.getD 0 default).2.1]) text tot ∧ meas (its'.map (·.2)) < meas (its.map (·.2)) ∧ its'.length ≤ its.length ∧ ∀ i ∈ its', i = v ∨ i ∈ its := by
  cases its with
  | nil => simp at h0
  | cons i0 r =>
    have hJ := Inv.rep_old hI hq (root_min hH) hm
    have hP2 : (its'.map (·.2)).Perm ((i0.2.1 + 1, i0.2.2) :: r.map (·.2)) := by
      have := hP.map (·.2)
      rw [List.map_cons, hv] at this
      exact this
    have hJ' := hJ.perm hP2.symm
    have h1 := hI.m
    have h2 := hJ'.m
    rw [List.length_append, List.length_singleton] at h2
    refine ⟨hJ', by omega, by rw [hP.length_eq]; simp, fun i hi => ?_⟩
    rcases List.mem_cons.mp (hP.mem_iff.mp hi) with h | h
    · exact .inl h
    · exact .inr (.tail _ h)
theorem inv_last (hI : Inv x P (its.map (·.2)) cuts ends text tot) (h0 : 0 < its.length) (hne : cuts ≠ []) (hl : cuts.getLastD 0 ≠ -(its.getD 0 default).2.1 - 1) : -(its.getD 0 default).2.1 - 1 ∉ cuts := by
  cases its with
  | nil => simp at h0
  | cons i0 r => exact (Inv.last hI hne).resolve_left hl
theorem last_mem (hne : cuts ≠ []) {k : Int} (hl : cuts.getLastD 0 = k) : k ∈ cuts := by
  cases cuts with
  | nil => exact absurd rfl hne
  | cons a r => rw [← hl]; exact List.getLast_mem (l := a :: r) (by simp)
theorem cuts_len (hI : Inv x P (its.map (·.2)) cuts ends text tot) : cuts.length ≤ x.length := desc_len cuts x.length hI.d fun k hk => ⟨(hI.e k hk).1, (hI.e k hk).2.1⟩
end
theorem ex_concat {α : Type} {l : List α} (h : 0 < l.length) : ∃ a b, l = a ++ [b] := by
  refine ⟨l.dropLast, l.getLast (by intro e; rw [e] at h; simp at h), ?_⟩
  exact (List.dropLast_concat_getLast _).symm
section
variable {prog : Program} {w : World} {A : Around} {E : Value → Shared → Prop} {s : Shared} {h₀ : Heap} {L l e : Addr} {news tl : List (Addr × Obj)} {n k : Nat}
theorem pair_same {x y : Int} {t u t' u' : Tok} {Q : Value → Shared → Prop} (N : News h₀ L s.heap news) (hm : (l, listOf #[.int x t, .int y u] n) ∈ tl) (hs : ∀ p ∈ tl, p ∈ news) (hm' : (e, listOf #[.int x t', .int y u'] k) ∈ news) (hu : A.units + 64 < cLine)
    (h : Q (.bool false) s) : wpAny (model prog w) A (compareOp .NotEq (.ref l) (.ref e)) Q E s :=
  pair_ne N hm hs hm' hu (by simpa using h)
end
end Mine
end
section
open PySem PySem.W PyProof.Rows PySem.Calls
namespace Mine
set_option maxRecDepth 100000
set_option maxHeartbeats 16000000
local macro_rules | `(tactic| k_all) => `(tactic| assumption)
local macro_rules | `(tactic| k_all) => `(tactic| exact rest_ne (by assumption) (by omega))
local macro_rules | `(tactic| k_room) => `(tactic| ktr_room)
local macro_rules | `(tactic| walk_at "exec") => `(tactic| ((with_reducible show wpAny _ _ (exec (Stmt.While _ _ _ _) _) _ _ _); refine mark ?_))
local macro_rules | `(tactic| walk_at "exec For Tuple Name cons nil") => `(tactic| (refine mark ?_))
local macro_rules | `(tactic| walk_at "call ref") => `(tactic| (refine mark ?_))
local macro_rules | `(tactic| walk_at "compareOp NotEq ref ref") => `(tactic| (k_here; (with_unfolding_all refine' heap_ne ?k1 ?k2 ?k3 ?k4 ?k5 ?k6 ?_; (case k1 => k_asm); (case k2 => k_mem); (case k3 => k_mem); (case k5 => assumption); (case k4 => intro p hp; repeat (first | exact hp | apply List.mem_cons_of_mem)); (case k6 => ktr_units); k_whole)))
local macro_rules | `(tactic| walk_at "compareOp NotEq ref ref") => `(tactic| (k_here; (with_unfolding_all refine' pair_same ?k1 ?k2 ?k3 ?k4 ?k5 ?_; (case k1 => k_asm); (case k2 => assumption); (case k3 => intro p hp; repeat (first | exact hp | apply List.mem_cons_of_mem)); (case k4 => k_mem); (case k5 => ktr_units); k_whole)))
local macro_rules | `(tactic| walk_at "compareOp Eq ref ref") => `(tactic| (k_here; (with_unfolding_all refine' in_eq ?k1 ?k2 ?k3 ?k4 ?k5 ?k6 ?_; (case k1 => k_asm); (case k2 => k_mem); (case k3 => assumption); (case k4 => k_mem); (case k5 => assumption); (case k6 => ktr_units); k_whole)))
local macro_rules | `(tactic| walk_at "compareOp Eq ref ref") => `(tactic| (k_here; (with_unfolding_all refine' in_eq (us := []) ?k1 ?k2 ?k3 ?k4 ?k5 ?k6 ?_; (case k1 => k_asm); (case k2 => k_mem); (case k3 => assumption); (case k4 => k_mem); (case k5 => exact IntsAre.nil); (case k6 => ktr_units); k_whole)))
local macro_rules | `(tactic| walk_at "call builtin:len") => `(tactic| (k_here; (with_unfolding_all refine' in_len ?k1 ?k2 ?k3 ?k4 ?_; (case k1 => k_asm); (case k2 => k_mem); (case k3 => assumption); (case k4 => omega); k_whole)))
local macro_rules | `(tactic| walk_at "call builtin:sorted") => `(tactic| (refine mark ?_))
local macro_rules | `(tactic| walk_at "subscriptTail") => `(tactic| (k_here; (with_reducible show wpAny _ _ (subscriptTail _ _ (Value.ref _) (Value.int _ _)) _ _ _); (with_unfolding_all refine' it_get ?k1 ?k2 ?k3 ?k4 ?k5 ?_ ?k6; (case k1 => k_asm); (case k2 => k_mem); (case k3 => omega); (case k4 => omega); (case k5 => omega); (case k6 => with_unfolding_all rfl); k_whole)))
local macro_rules | `(tactic| walk_at "subscriptTail") => `(tactic| (k_here; (with_reducible show wpAny _ _ (subscriptTail _ _ (Value.ref _) (Value.int (-1) _)) _ _ _); (with_unfolding_all refine' in_last ?k1 ?k2 ?k3 ?k4 ?k5 ?_ ?k6; (case k1 => k_asm); (case k2 => k_mem); (case k3 => assumption); (case k4 => exact of_decide_eq_false (by assumption)); (case k5 => omega); (case k6 => with_unfolding_all rfl); k_whole); intro tLa))
local macro_rules | `(tactic| walk_at "assign Tuple") => `(tactic| (k_here; (refine' kun_list ?k1 ?k2 ?k3 ?k4 ?k5 ?k6 ?_; (case k1 => k_asm); (case k2 => k_asm); (case k3 => exact tailList (by k_asm) (by assumption) (by intro p hp; repeat (first | exact hp | apply List.mem_cons_of_mem))); (case k4 => exact rfl); (case k5 => exact rfl); (case k6 => exact rfl); k_whole); intro h' F' N'; (try k_sweep)))
theorem freed_c {w : World} {mean : ExcName → Option Value} {mg mb : Str → Option Value}
  (dp un : Nat) (gd : Option (List Code)) (cn : Str) (cs : Scope) (a : Addr) (ccd : Value) (cl : List (Str × Addr)) (outer : List Env) (A₀ : Around) (base h₀ : Heap) (L : Addr) (m : Str → Option Value) (rest : List (Addr × Obj)) (s : Shared)
  (x : Str) (t : Tok) (ls : Addr) (prs : List Item) (np : Nat) (Q E : Value → Shared → Prop)
  (B : Below A₀ base outer h₀) (F : Fr h₀ L s.heap m) (X : (hd.heap_39 w.params).In h₀) (N : News h₀ L s.heap ((58, tabObj #[]) :: rest)) (T : Top topProg LOOSE mean mg mb h₀) (hk : cs.kind = .function)
  (hx : x.length ≤ 100) (hC : CodeHd h₀ 62 58) (hl : ∀ p ∈ rest, p.1 ≠ 58) (hls : (ls, listOf (vals prs) np) ∈ rest) (hin : ItemsIn rest prs) (hlp : prs.length ≤ 90) (hps : ∀ p ∈ prs.map (·.2), 0 ≤ p.1 ∧ p.1 ≤ p.2 ∧ p.2 ≤ (x.length : Int)) (htot : meas ((prs.map (·.2)).map fun p => (-p.2, p.1)) ≤ 60)
  (hd : dp + 5 < recursionLimit) (hu : un + 1000 < cLine)
  (ret : ∀ lr n1 lcx vsC cuts nc ps tl text tT ends h' tk', Fr h₀ L h' m → News h₀ L h' ((lr, listOf #[.str text tT, .ref lcx] n1) :: (lcx, listOf vsC.toArray nc) :: (58, tabObj ps) :: tl) → (∀ p ∈ rest, p ∈ tl) → IntsAre vsC cuts →
    Inv x (prs.map (·.2)) [] cuts ends text (meas ((prs.map (·.2)).map fun p => (-p.2, p.1))) → Q (.ref lr) { s with heap := h', toks := tk' }) :
  wpAny (model PR w) (ktrTop dp un gd cn cs L a ccd cl outer) (call (.ref 70) [.str x t, .ref ls]) Q E s := by
  have hz : PySem.Challenge.rw_nb0076_01 = PySem.Challenge.rw_nb0076_01 ∧ Mine.hd.heap_39 w.params = Mine.hd.heap_39 w.params := by (k_fill; exact ⟨rfl, rfl⟩)
  clear hz
  refine wpAny_call ?_
  ktr_enter
  k_steps
  rename_i tk0 lh h7 q1 lc h6 q2 le h5 q3 D h4 q4 h3 h2 h1 h0 F1 N1
  refine unmark ?_
  have ne1 : ∀ p ∈ (lc, listOf #[] 0) :: (le, listOf #[] 0) :: (58, tabObj #[]) :: rest, p.1 ≠ lh := by
    intro p hp
    simp only [List.mem_cons] at hp
    rcases hp with rfl | rfl | rfl | hp
    · exact Nat.ne_of_gt q2.1
    · exact Nat.ne_of_gt q3.2.1
    · exact Nat.ne_of_lt q1.1
    · exact Nat.ne_of_lt (allLt_mem q1.2 p hp)
  refine for_j (l := ls) (items := vals prs) (n := np) [Str.ofString "first", Str.ofString "behind"] (fun i m₁ nx => ∃ (its : List Item) (nh : Nat) (tl : List (Addr × Obj)), nx = (lh, listOf (vals its) nh) :: (tl ++ (lc, listOf #[] 0) :: (le, listOf #[] 0) :: (58, tabObj #[]) :: rest) ∧ IsHeap its ∧ its.length = i ∧ (its.map (·.2)).Perm ((prs.take i).map keyOf) ∧ ItemsIn (tl ++ (lc, listOf #[] 0) :: (le, listOf #[] 0) :: (58, tabObj #[]) :: rest) its ∧ (∀ p ∈ tl ++ (lc, listOf #[] 0) :: (le, listOf #[] 0) :: (58, tabObj #[]) :: rest, p.1 ≠ lh) ∧ (∀ p ∈ tl, p.1 ≠ lc ∧ p.1 ≠ le ∧ p.1 ≠ 58))
    rfl F1 (News.sub N1 (b := (lh, listOf #[] 0) :: ([] ++ (lc, listOf #[] 0) :: (le, listOf #[] 0) :: (58, tabObj #[]) :: rest)) ?_) ?_ ⟨[], 0, [], rfl, ?_, rfl, ?_, ?_, ne1, ?_⟩ (fun Q' h => ld F1 rfl h) ?_ ?_
  · intro p hp
    simp only [List.nil_append, List.mem_cons] at hp ⊢
    rcases hp with rfl | rfl | rfl | rfl | hp
    · exact .inr (.inr (.inr (.inl rfl)))
    · exact .inr (.inr (.inl rfl))
    · exact .inr (.inl rfl)
    · exact .inr (.inr (.inr (.inr (.inl rfl))))
    · exact .inr (.inr (.inr (.inr (.inr hp))))
  · rintro i m₁ nx ⟨its, nh, tl, rfl, -⟩
    exact .tail _ (List.mem_append_right _ (.tail _ (.tail _ (.tail _ hls))))
  · exact fun j _ h => absurd h (Nat.not_lt_zero _)
  · exact List.Perm.refl _
  · exact fun i hi => nomatch hi
  · exact fun p hp => nomatch hp
  · clear F1 N1
    rintro i v m₁ nx it oI h tk hv ⟨its, nh, tl, rfl, hH, hlen, hperm, hin', hne', htl⟩ F2 N2 hne2
    have hi : i < prs.length := by
      obtain ⟨hz, -⟩ := Array.getElem?_eq_some_iff.mp hv
      have e9 : (vals prs).size = prs.length := vals_size
      omega
    rw [vals_get hi] at hv
    cases hv
    obtain ⟨t1, t2, n1, hI⟩ := itemsIn_get hin hi
    have hM : ((prs.getD i default).1, listOf #[Value.int (prs.getD i default).2.1 t1, Value.int (prs.getD i default).2.2 t2] n1) ∈ (it, oI) :: (lh, listOf (vals its) nh) :: (tl ++ (lc, listOf #[] 0) :: (le, listOf #[] 0) :: (58, tabObj #[]) :: rest) :=
      .tail _ (.tail _ (List.mem_append_right _ (.tail _ (.tail _ (.tail _ hI)))))
    k_steps
    rename_i lv hv8 F3 N3 q5
    refine unmark ?_
    have hsub : ∀ p, p ∈ tl ++ (lc, listOf #[] 0) :: (le, listOf #[] 0) :: (58, tabObj #[]) :: rest → p ∈ (lv, listOf #[Value.int (-(prs.getD i default).2.2) tk, Value.int (prs.getD i default).2.1 t1] 0) :: (it, oI) :: (tl ++ (lc, listOf #[] 0) :: (le, listOf #[] 0) :: (58, tabObj #[]) :: rest) := fun p hp => .tail _ (.tail _ hp)
    refine hpush_c _ _ _ _ _ _ _ _ _ _ _ _ _ _ ((lv, listOf #[Value.int (-(prs.getD i default).2.2) tk, Value.int (prs.getD i default).2.1 t1] 0) :: (it, oI) :: (tl ++ (lc, listOf #[] 0) :: (le, listOf #[] 0) :: (58, tabObj #[]) :: rest)) _ lh nh its (lv, keyOf (prs.getD i default)) _ _ (by k_asm) F3 (by k_asm) (News.sub N3 ?_) (by k_asm) rfl ?_ ?_ ?_ ?_ ?_ ?_ ?_
    · intro p hp
      simp only [List.mem_cons] at hp ⊢
      rcases hp with rfl | rfl | rfl | hp
      · exact .inr (.inr (.inl rfl))
      · exact .inl rfl
      · exact .inr (.inl rfl)
      · exact .inr (.inr (.inr hp))
    · exact fun j hj => let ⟨a1, a2, a3, a4⟩ := hin' j hj; ⟨a1, a2, a3, hsub _ a4⟩
    · exact ⟨_, _, _, .head _⟩
    · intro p hp
      simp only [List.mem_cons] at hp
      rcases hp with rfl | rfl | hp
      · exact Nat.ne_of_gt q5.2.1
      · exact (hne2 _ (.head _)).symm
      · exact hne' p hp
    · omega
    · ktr_room
    · ktr_units
    · intro n' h' tk' F' N'
      k_steps
      obtain ⟨hH', hP'⟩ := push_ok (lv, keyOf (prs.getD i default)) its hH
      have hlt := allLt_mem q5.2.2
      dsimp only [FoEnd]
      refine ⟨_, _, _, (lh, listOf (vals (sdF (lv, keyOf (prs.getD i default)) (its ++ [(lv, keyOf (prs.getD i default))]) its.length)) n') :: (((lv, listOf #[Value.int (-(prs.getD i default).2.2) tk, Value.int (prs.getD i default).2.1 t1] 0) :: tl) ++ (lc, listOf #[] 0) :: (le, listOf #[] 0) :: (58, tabObj #[]) :: rest), rfl, by k_asm, News.sub N' ?_, ?_, fun y hy => ?_, ⟨_, _, _, rfl, hH', ?_, ?_, ?_, ?_, ?_⟩⟩
      · intro p hp
        simp only [List.cons_append, List.mem_cons] at hp ⊢
        rcases hp with rfl | rfl | rfl | hp
        · exact .inr (.inr (.inl rfl))
        · exact .inl rfl
        · exact .inr (.inl rfl)
        · exact .inr (.inr (.inr hp))
      · intro p hp
        simp only [List.cons_append, List.mem_cons] at hp
        rcases hp with rfl | rfl | hp
        · exact show lh ≠ it from hne2 (lh, listOf (vals its) nh) (.head _)
        · exact Nat.ne_of_gt q5.1
        · exact hne2 p (.tail _ hp)
      · repeat rw [if_neg (st_ne hy (by decide))]
        rw [if_neg (by rw [hy]; decide)]
      · rw [hP'.length_eq, List.length_cons, hlen]
      · refine (hP'.map _).trans ?_
        rw [List.take_add_one, List.getElem?_eq_getElem hi]
        simp only [List.map_cons, Option.toList_some, List.map_append, List.map_nil]
        have e9 : prs.getD i default = prs[i] := by simp [List.getD_eq_getElem?_getD, hi]
        rw [e9]
        exact (hperm.cons _).trans (List.perm_append_singleton _ _).symm
      · intro j hj
        rcases List.mem_cons.mp (hP'.mem_iff.mp hj) with rfl | hj
        · exact ⟨_, _, _, .head _⟩
        · exact let ⟨a1, a2, a3, a4⟩ := hin' j hj; ⟨a1, a2, a3, .tail _ a4⟩
      · intro p hp
        rcases List.mem_cons.mp hp with rfl | hp
        · exact Nat.ne_of_gt q5.2.1
        · exact hne' p hp
      · intro p hp
        rcases List.mem_cons.mp hp with rfl | hp
        · exact ⟨Nat.ne_of_gt (hlt _ (List.mem_append_right _ (.head _))), Nat.ne_of_gt (hlt _ (List.mem_append_right _ (.tail _ (.head _)))), Nat.ne_of_gt (hlt _ (List.mem_append_right _ (.tail _ (.tail _ (.head _)))))⟩
        · exact htl p hp
  · rintro m₁ nx h tk ⟨its, nh, tl, rfl, hH, hlen, hperm, hin', hne', htl⟩ F2 N2
    k_steps
    rename Fr _ _ _ _ => F3
    rename News _ _ _ _ => N3
    refine unmark ?_
    have hsz : (vals prs).size = prs.length := vals_size
    have hke : (prs.map (·.2)).map (fun p => (-p.2, p.1)) = prs.map keyOf := by rw [List.map_map]; rfl
    have I0 : Inv x (prs.map (·.2)) (its.map (·.2)) [] [] x (meas ((prs.map (·.2)).map fun p => (-p.2, p.1))) := by
      refine (Inv.start hps).perm ?_
      rw [hsz, List.take_length] at hperm
      rw [hke]
      exact hperm.symm
    have hin0 : ItemsIn (tl ++ rest) its := by
      intro i hi
      obtain ⟨a1, a2, a3, a4⟩ := hin' i hi
      refine ⟨a1, a2, a3, ?_⟩
      simp only [List.mem_append, List.mem_cons] at a4 ⊢
      rcases a4 with a4 | a4 | a4 | a4 | a4
      · exact .inl a4
      · simp at a4
      · simp at a4
      · simp at a4
      · exact .inr a4
    refine while_j [Str.ofString "text", Str.ofString "below", Str.ofString "first", Str.ofString "gone"] (fun n₁ m₁ nx => ∃ (its : List Item) (nh : Nat) (vsC : List Value) (cuts : List Int) (nc : Nat) (vsE : List Value) (ends : List Int) (ne : Nat) (ps : Array Value) (tl : List (Addr × Obj)) (text : Str) (tT : Tok),
      n₁ = meas (its.map (·.2)) ∧ m₁ (Str.ofString "text") = some (.str text tT) ∧ nx = (lh, listOf (vals its) nh) :: (lc, listOf vsC.toArray nc) :: (le, listOf vsE.toArray ne) :: (58, tabObj ps) :: tl ∧ IntsAre vsC cuts ∧ IntsAre vsE ends ∧ IsHeap its ∧
      Inv x (prs.map (·.2)) (its.map (·.2)) cuts ends text (meas ((prs.map (·.2)).map fun p => (-p.2, p.1))) ∧ its.length ≤ 90 ∧ (∀ p ∈ rest, p ∈ tl) ∧ TabIn ps tl ∧ ItemsIn tl its ∧ (∀ p ∈ tl, p.1 ≠ lh) ∧ (∀ p ∈ tl, p.1 ≠ lc) ∧ (∀ p ∈ tl, p.1 ≠ le) ∧ (∀ p ∈ tl, p.1 ≠ 58))
      F3 (News.sub N3 (b := (lh, listOf (vals its) nh) :: (lc, listOf ([] : List Value).toArray 0) :: (le, listOf ([] : List Value).toArray 0) :: (58, tabObj #[]) :: (tl ++ rest)) ?_)
      ⟨its, nh, [], [], 0, [], [], 0, #[], tl ++ rest, x, t, rfl, rfl, rfl, .nil, .nil, hH, I0, by omega, fun p hp => List.mem_append_right _ hp, .inl rfl, hin0, ?_, ?_, ?_, ?_⟩ ?_
    · intro p hp
      simp only [List.mem_cons, List.mem_append] at hp ⊢
      rcases hp with rfl | rfl | rfl | rfl | hp | hp
      · exact .inl rfl
      · exact .inr (.inr (.inl rfl))
      · exact .inr (.inr (.inr (.inl rfl)))
      · exact .inr (.inr (.inr (.inr (.inl rfl))))
      · exact .inr (.inl hp)
      · exact .inr (.inr (.inr (.inr (.inr hp))))
    · intro p hp
      rcases List.mem_append.mp hp with hp | hp
      · exact hne' p (List.mem_append_left _ hp)
      · exact Nat.ne_of_lt (allLt_mem q1.2 p hp)
    · intro p hp
      rcases List.mem_append.mp hp with hp | hp
      · exact (htl p hp).1
      · exact Nat.ne_of_lt (allLt_mem q2.2.2 p hp)
    · intro p hp
      rcases List.mem_append.mp hp with hp | hp
      · exact (htl p hp).2.1
      · exact Nat.ne_of_lt (allLt_mem q3.2.2.2 p hp)
    · intro p hp
      rcases List.mem_append.mp hp with hp | hp
      · exact (htl p hp).2.2
      · exact hl p hp
    clear F3 N3 I0 hin0 hH hlen hperm hin' hne' htl its nh tl
    rintro n₁ m₁ nx h₁ tk₁ F4 N4 ⟨its, nh, vsC, cuts, nc, vsE, ends, ne, ps, tl, text, tT, hn₁, htx, rfl, hiC, hiE, hH, hI, hlen, hrest, htab, hin', hn1, hn2, hn3, hn4⟩
    replace F4 := fr_know F4 (x := Str.ofString "text") (v := .str text tT) (by exact htx)
    have q6 : 58 < lh ∧ lh < lc ∧ lc < le := ⟨q1.1, q2.1, q3.1⟩
    have ne_lh : ∀ p ∈ (lc, listOf vsC.toArray nc) :: (le, listOf vsE.toArray ne) :: (58, tabObj ps) :: tl, p.1 ≠ lh := by
      intro p hp
      simp only [List.mem_cons] at hp
      rcases hp with rfl | rfl | rfl | hp
      · exact Nat.ne_of_gt q2.1
      · exact Nat.ne_of_gt q3.2.1
      · exact Nat.ne_of_lt q1.1
      · exact hn1 p hp
    by_cases h0 : 0 < its.length
    · obtain ⟨t1, t2, n1, hR⟩ := itemsIn_get hin' h0
      have hEl : ends.length ≤ 60 := by have := hI.m; omega
      have hCl : cuts.length ≤ 100 := Nat.le_trans (cuts_len hI) hx
      have htl100 : text.length ≤ 100 := Nat.le_trans hI.l hx
      k_steps
      · -- heappop
        rename Fr _ _ _ _ => F5
        rename News _ _ _ _ => N5
        rename (its.getD 0 default).2.2 = -(its.getD 0 default).2.1 => hq
        refine unmark ?_
        obtain ⟨ia, ib, hab⟩ := ex_concat h0
        have hi2 : ItemsIn tl ia := fun i hi => hin' i (by rw [hab]; exact List.mem_append_left _ hi)
        have hi3 : ItemIn tl ib := hin' ib (by rw [hab]; simp)
        have hl9 : ia.length ≤ 99 := by rw [hab, List.length_append] at hlen; omega
        rw [hab] at N5
        refine hpop_c _ _ _ _ _ _ _ _ _ _ _ _ _ _ ((lc, listOf vsC.toArray nc) :: (le, listOf vsE.toArray ne) :: (58, tabObj ps) :: tl) _ lh nh ia ib _ _ (by k_asm) F5 (by k_asm) (News.sub N5 fun p hp => .tail _ hp) (by k_asm) rfl (fun j hj => let ⟨a1, a2, a3, a4⟩ := hi2 j hj; ⟨a1, a2, a3, .tail _ (.tail _ (.tail _ a4))⟩) (let ⟨a1, a2, a3, a4⟩ := hi3; ⟨a1, a2, a3, .tail _ (.tail _ (.tail _ a4))⟩) ?_ hl9 ?_ ?_ ?_
        · exact ne_lh
        · ktr_room
        · ktr_units
        · intro n' h' tk' F' N'
          obtain ⟨hH', hP'⟩ := pop_ok ib ia (hab ▸ hH)
          rw [← hab] at hP' ⊢
          clear N5
          generalize (if ia = [] then [] else suF ib (ia.set 0 ib) 0) = its2 at N' hH' hP'
          obtain ⟨hI', hms, hl', hmem'⟩ := turn_pop hI hH h0 hq hP'
          k_steps
          rename News _ _ _ _ => N6
          have ep : vsE.toArray.push (Value.int (its.getD 0 default).2.1 t1) = (vsE ++ [Value.int (its.getD 0 default).2.1 t1]).toArray := by simp
          rw [ep] at N6
          dsimp only [StEnd]
          refine ⟨_, _, _, (lh, listOf (vals its2) n') :: (lc, listOf vsC.toArray nc) :: (le, listOf (vsE ++ [Value.int (its.getD 0 default).2.1 t1]).toArray (ne + 1)) :: (58, tabObj ps) :: tl, meas (its2.map (·.2)), rfl, by k_asm, News.sub N6 fun p hp => .tail _ hp, by omega, fun y hy => ?_,
            ⟨its2, n', vsC, cuts, nc, _, _, ne + 1, ps, tl, text, tT, rfl, rfl, rfl, hiC, IntsAre.append hiE (.cons _ _ .nil), hH', hI', by omega, hrest, htab, fun i hi => hin' i (hmem' i hi), hn1, hn2, hn3, hn4⟩⟩
          repeat rw [if_neg (st_ne hy (by decide))]
          rw [if_neg (by rw [hy]; decide)]
      · -- a cut, the first
        rename (its.getD 0 default).2.2 ≠ -(its.getD 0 default).2.1 => hq
        rename decide (cuts = []) = true => hc0
        have hm9 : -(its.getD 0 default).2.1 - 1 ∉ cuts := by rw [of_decide_eq_true hc0]; exact List.not_mem_nil
        rename Fr _ _ _ _ => F5
        rename News _ _ _ _ => N5
        refine unmark ?_
        obtain ⟨vsC', hiC', N6⟩ := cutN2 N5 hiC
        refine cut_d _ _ _ _ _ _ _ _ _ _ _ _ _ _ _ _ ps text _ _ _ _ _ _ _ (by k_asm) F5 (by k_asm) N6 (by k_asm) rfl (TabIn.mono htab fun p hp => .tail _ (.tail _ (.tail _ hp))) htl100 (by first | assumption | exact CodeHd.keeps hC (Fr.keep (by k_asm))) ?_ ?_ ?_ ?_
        · exact List.forall_mem_cons.mpr ⟨Nat.ne_of_gt q1.1, List.forall_mem_cons.mpr ⟨Nat.ne_of_gt q2.2.1, List.forall_mem_cons.mpr ⟨Nat.ne_of_gt q3.2.2.1, hn4⟩⟩⟩
        · ktr_room
        · ktr_units
        · intro f' h' tk' F' FA G
          clear N5 N6
          k_steps
          refine unmark ?_
          refine G _ _ ?_
          intro ps' tl' h'' tk'' t'' F'' N'' hT'' hfl hgt
          have N7 := cutM N''
          have htab' := tab_strip hT''
          have hR' : ((its.getD 0 default).1, listOf #[Value.int (its.getD 0 default).2.1 t1, Value.int (its.getD 0 default).2.2 t2] n1) ∈ tl' ++ tl := List.mem_append_right _ hR
          have hrest' : ∀ p ∈ rest, p ∈ tl' ++ tl := fun p hp => List.mem_append_right _ (hrest p hp)
          have hin2 : ItemsIn (tl' ++ tl) its := fun j hj => let ⟨a1, a2, a3, a4⟩ := hin' j hj; ⟨a1, a2, a3, List.mem_append_right _ a4⟩
          have hsb : ∀ p ∈ tl', p ∈ (lh, listOf (vals its) nh) :: (lc, listOf vsC'.toArray (nc + 1)) :: (le, listOf vsE.toArray ne) :: (58, tabObj ps') :: (tl' ++ tl) := fun p hp => .tail _ (.tail _ (.tail _ (.tail _ (List.mem_append_left _ hp))))
          have hn1' : ∀ p ∈ tl' ++ tl, p.1 ≠ lh := all_app (tl_ne N7 hsb hfl (.head _)) hn1
          have hn2' : ∀ p ∈ tl' ++ tl, p.1 ≠ lc := all_app (tl_ne N7 hsb hfl (.tail _ (.head _))) hn2
          have hn3' : ∀ p ∈ tl' ++ tl, p.1 ≠ le := all_app (tl_ne N7 hsb hfl (.tail _ (.tail _ (.head _)))) hn3
          have hn4' : ∀ p ∈ tl' ++ tl, p.1 ≠ 58 := all_app (fun p hp => Nat.ne_of_gt (hgt p hp)) hn4
          clear N'' hT'' hsb hfl hgt G
          generalize tl' ++ tl = tlN at N7 htab' hR' hrest' hin2 hn1' hn2' hn3' hn4'
          clear hR
          k_steps
          rename_i lv hv9 F8 N8 q9
          refine unmark ?_
          have N9 := repN N8
          have l9 : lh < lv ∧ lc < lv ∧ le < lv ∧ 58 < lv := ⟨by show @LT.lt Nat _ _ _; omega, by show @LT.lt Nat _ _ _; omega, by show @LT.lt Nat _ _ _; omega, by show @LT.lt Nat _ _ _; omega⟩
          refine hrep_c _ _ _ _ _ _ _ _ _ _ _ _ _ _ _ _ lh nh its (lv, (its.getD 0 default).2.1 + 1, (its.getD 0 default).2.2) _ _ (by k_asm) F8 (by k_asm) N9 (by k_asm) rfl (fun j hj => let ⟨a1, a2, a3, a4⟩ := hin2 j hj; ⟨a1, a2, a3, .tail _ (.tail _ (.tail _ (.tail _ a4)))⟩) ⟨_, _, _, .head _⟩ ?_ (by omega) h0 ?_ ?_ ?_
          · exact List.forall_mem_cons.mpr ⟨Nat.ne_of_gt l9.1, List.forall_mem_cons.mpr ⟨Nat.ne_of_gt q2.1, List.forall_mem_cons.mpr ⟨Nat.ne_of_gt q3.2.1, List.forall_mem_cons.mpr ⟨Nat.ne_of_lt q1.1, hn1'⟩⟩⟩⟩
          · ktr_room
          · ktr_units
          · intro h9 tk9 F9 N9
            obtain ⟨hH', hP'⟩ := rep_ok (lv, (its.getD 0 default).2.1 + 1, (its.getD 0 default).2.2) its hH h0
            clear N8
            generalize suF (lv, (its.getD 0 default).2.1 + 1, (its.getD 0 default).2.2) (its.set 0 (lv, (its.getD 0 default).2.1 + 1, (its.getD 0 default).2.2)) 0 = its2 at N9 hH' hP'
            obtain ⟨hI', hms, hl', hmem'⟩ := turn_new hI hH h0 hq hm9 rfl hP'
            k_steps
            rename News _ _ _ _ => N10
            have N11 := endN N10
            dsimp only [StEnd]
            refine ⟨_, _, _, _, meas (its2.map (·.2)), rfl, by k_asm, N11, by omega, fun y hy => ?_,
              ⟨its2, nh, vsC', _, nc + 1, _, _, ne + 1, ps', _, _, _, rfl, rfl, rfl, hiC', IntsAre.append hiE (.cons _ _ .nil), hH', hI', by omega, fun p hp => .tail _ (hrest' p hp), TabIn.mono htab' fun p hp => .tail _ hp, ?_, List.forall_mem_cons.mpr ⟨Nat.ne_of_gt l9.1, hn1'⟩, List.forall_mem_cons.mpr ⟨Nat.ne_of_gt l9.2.1, hn2'⟩, List.forall_mem_cons.mpr ⟨Nat.ne_of_gt l9.2.2.1, hn3'⟩, List.forall_mem_cons.mpr ⟨Nat.ne_of_gt l9.2.2.2, hn4'⟩⟩⟩
            · repeat rw [if_neg (st_ne hy (by decide))]
              rw [if_neg (by rw [hy]; decide)]
            · intro i hi
              rcases hmem' i hi with rfl | hi
              · exact ⟨_, _, _, .head _⟩
              · exact let ⟨a1, a2, a3, a4⟩ := hin2 i hi; ⟨a1, a2, a3, .tail _ a4⟩
      · -- a cut
        rename (its.getD 0 default).2.2 ≠ -(its.getD 0 default).2.1 => hq
        rename decide (cuts = []) = false => hc0
        rename cuts.getLastD 0 ≠ -(its.getD 0 default).2.1 - 1 => hc1
        have hm9 : -(its.getD 0 default).2.1 - 1 ∉ cuts := inv_last hI h0 (of_decide_eq_false hc0) hc1
        rename Fr _ _ _ _ => F5
        rename News _ _ _ _ => N5
        refine unmark ?_
        obtain ⟨vsC', hiC', N6⟩ := cutN2 N5 hiC
        refine cut_d _ _ _ _ _ _ _ _ _ _ _ _ _ _ _ _ ps text _ _ _ _ _ _ _ (by k_asm) F5 (by k_asm) N6 (by k_asm) rfl (TabIn.mono htab fun p hp => .tail _ (.tail _ (.tail _ hp))) htl100 (by first | assumption | exact CodeHd.keeps hC (Fr.keep (by k_asm))) ?_ ?_ ?_ ?_
        · exact List.forall_mem_cons.mpr ⟨Nat.ne_of_gt q1.1, List.forall_mem_cons.mpr ⟨Nat.ne_of_gt q2.2.1, List.forall_mem_cons.mpr ⟨Nat.ne_of_gt q3.2.2.1, hn4⟩⟩⟩
        · ktr_room
        · ktr_units
        · intro f' h' tk' F' FA G
          clear N5 N6
          k_steps
          refine unmark ?_
          refine G _ _ ?_
          intro ps' tl' h'' tk'' t'' F'' N'' hT'' hfl hgt
          have N7 := cutM N''
          have htab' := tab_strip hT''
          have hR' : ((its.getD 0 default).1, listOf #[Value.int (its.getD 0 default).2.1 t1, Value.int (its.getD 0 default).2.2 t2] n1) ∈ tl' ++ tl := List.mem_append_right _ hR
          have hrest' : ∀ p ∈ rest, p ∈ tl' ++ tl := fun p hp => List.mem_append_right _ (hrest p hp)
          have hin2 : ItemsIn (tl' ++ tl) its := fun j hj => let ⟨a1, a2, a3, a4⟩ := hin' j hj; ⟨a1, a2, a3, List.mem_append_right _ a4⟩
          have hsb : ∀ p ∈ tl', p ∈ (lh, listOf (vals its) nh) :: (lc, listOf vsC'.toArray (nc + 1)) :: (le, listOf vsE.toArray ne) :: (58, tabObj ps') :: (tl' ++ tl) := fun p hp => .tail _ (.tail _ (.tail _ (.tail _ (List.mem_append_left _ hp))))
          have hn1' : ∀ p ∈ tl' ++ tl, p.1 ≠ lh := all_app (tl_ne N7 hsb hfl (.head _)) hn1
          have hn2' : ∀ p ∈ tl' ++ tl, p.1 ≠ lc := all_app (tl_ne N7 hsb hfl (.tail _ (.head _))) hn2
          have hn3' : ∀ p ∈ tl' ++ tl, p.1 ≠ le := all_app (tl_ne N7 hsb hfl (.tail _ (.tail _ (.head _)))) hn3
          have hn4' : ∀ p ∈ tl' ++ tl, p.1 ≠ 58 := all_app (fun p hp => Nat.ne_of_gt (hgt p hp)) hn4
          clear N'' hT'' hsb hfl hgt G
          generalize tl' ++ tl = tlN at N7 htab' hR' hrest' hin2 hn1' hn2' hn3' hn4'
          clear hR
          k_steps
          rename_i lv hv9 F8 N8 q9
          refine unmark ?_
          have N9 := repN N8
          have l9 : lh < lv ∧ lc < lv ∧ le < lv ∧ 58 < lv := ⟨by show @LT.lt Nat _ _ _; omega, by show @LT.lt Nat _ _ _; omega, by show @LT.lt Nat _ _ _; omega, by show @LT.lt Nat _ _ _; omega⟩
          refine hrep_c _ _ _ _ _ _ _ _ _ _ _ _ _ _ _ _ lh nh its (lv, (its.getD 0 default).2.1 + 1, (its.getD 0 default).2.2) _ _ (by k_asm) F8 (by k_asm) N9 (by k_asm) rfl (fun j hj => let ⟨a1, a2, a3, a4⟩ := hin2 j hj; ⟨a1, a2, a3, .tail _ (.tail _ (.tail _ (.tail _ a4)))⟩) ⟨_, _, _, .head _⟩ ?_ (by omega) h0 ?_ ?_ ?_
          · exact List.forall_mem_cons.mpr ⟨Nat.ne_of_gt l9.1, List.forall_mem_cons.mpr ⟨Nat.ne_of_gt q2.1, List.forall_mem_cons.mpr ⟨Nat.ne_of_gt q3.2.1, List.forall_mem_cons.mpr ⟨Nat.ne_of_lt q1.1, hn1'⟩⟩⟩⟩
          · ktr_room
          · ktr_units
          · intro h9 tk9 F9 N9
            obtain ⟨hH', hP'⟩ := rep_ok (lv, (its.getD 0 default).2.1 + 1, (its.getD 0 default).2.2) its hH h0
            clear N8
            generalize suF (lv, (its.getD 0 default).2.1 + 1, (its.getD 0 default).2.2) (its.set 0 (lv, (its.getD 0 default).2.1 + 1, (its.getD 0 default).2.2)) 0 = its2 at N9 hH' hP'
            obtain ⟨hI', hms, hl', hmem'⟩ := turn_new hI hH h0 hq hm9 rfl hP'
            k_steps
            rename News _ _ _ _ => N10
            have N11 := endN N10
            dsimp only [StEnd]
            refine ⟨_, _, _, _, meas (its2.map (·.2)), rfl, by k_asm, N11, by omega, fun y hy => ?_,
              ⟨its2, nh, vsC', _, nc + 1, _, _, ne + 1, ps', _, _, _, rfl, rfl, rfl, hiC', IntsAre.append hiE (.cons _ _ .nil), hH', hI', by omega, fun p hp => .tail _ (hrest' p hp), TabIn.mono htab' fun p hp => .tail _ hp, ?_, List.forall_mem_cons.mpr ⟨Nat.ne_of_gt l9.1, hn1'⟩, List.forall_mem_cons.mpr ⟨Nat.ne_of_gt l9.2.1, hn2'⟩, List.forall_mem_cons.mpr ⟨Nat.ne_of_gt l9.2.2.1, hn3'⟩, List.forall_mem_cons.mpr ⟨Nat.ne_of_gt l9.2.2.2, hn4'⟩⟩⟩
            · repeat rw [if_neg (st_ne hy (by decide))]
              rw [if_neg (by rw [hy]; decide)]
            · intro i hi
              rcases hmem' i hi with rfl | hi
              · exact ⟨_, _, _, .head _⟩
              · exact let ⟨a1, a2, a3, a4⟩ := hin2 i hi; ⟨a1, a2, a3, .tail _ a4⟩
      · -- no cut
        rename (its.getD 0 default).2.2 ≠ -(its.getD 0 default).2.1 => hq
        rename decide (cuts = []) = false => hc0
        rename cuts.getLastD 0 = -(its.getD 0 default).2.1 - 1 => hc1
        have hm9 : -(its.getD 0 default).2.1 - 1 ∈ cuts := last_mem (of_decide_eq_false hc0) hc1
        rename_i lv hv9 F8 N8 q9
        refine unmark ?_
        have N9 := repN2 N8
        have l9 : lh < lv ∧ lc < lv ∧ le < lv ∧ 58 < lv := ⟨by show @LT.lt Nat _ _ _; omega, by show @LT.lt Nat _ _ _; omega, by show @LT.lt Nat _ _ _; omega, by show @LT.lt Nat _ _ _; omega⟩
        refine hrep_c _ _ _ _ _ _ _ _ _ _ _ _ _ _ _ _ lh nh its (lv, (its.getD 0 default).2.1 + 1, (its.getD 0 default).2.2) _ _ (by k_asm) F8 (by k_asm) N9 (by k_asm) rfl (fun j hj => let ⟨a1, a2, a3, a4⟩ := hin' j hj; ⟨a1, a2, a3, .tail _ (.tail _ (.tail _ (.tail _ a4)))⟩) ⟨_, _, _, .head _⟩ ?_ (by omega) h0 ?_ ?_ ?_
        · exact List.forall_mem_cons.mpr ⟨Nat.ne_of_gt l9.1, List.forall_mem_cons.mpr ⟨Nat.ne_of_gt q2.1, List.forall_mem_cons.mpr ⟨Nat.ne_of_gt q3.2.1, List.forall_mem_cons.mpr ⟨Nat.ne_of_lt q1.1, hn1⟩⟩⟩⟩
        · ktr_room
        · ktr_units
        · intro h9 tk9 F9 N9
          obtain ⟨hH', hP'⟩ := rep_ok (lv, (its.getD 0 default).2.1 + 1, (its.getD 0 default).2.2) its hH h0
          clear N8
          generalize suF (lv, (its.getD 0 default).2.1 + 1, (its.getD 0 default).2.2) (its.set 0 (lv, (its.getD 0 default).2.1 + 1, (its.getD 0 default).2.2)) 0 = its2 at N9 hH' hP'
          obtain ⟨hI', hms, hl', hmem'⟩ := turn_old hI hH h0 hq hm9 rfl hP'
          k_steps
          rename News _ _ _ _ => N10
          have N11 := endN N10
          dsimp only [StEnd]
          refine ⟨_, _, _, _, meas (its2.map (·.2)), rfl, by k_asm, N11, by omega, fun y hy => ?_,
            ⟨its2, nh, vsC, _, nc, _, _, ne + 1, ps, _, _, _, rfl, rfl, rfl, hiC, IntsAre.append hiE (.cons _ _ .nil), hH', hI', by omega, fun p hp => .tail _ (hrest p hp), TabIn.mono htab fun p hp => .tail _ hp, ?_, List.forall_mem_cons.mpr ⟨Nat.ne_of_gt l9.1, hn1⟩, List.forall_mem_cons.mpr ⟨Nat.ne_of_gt l9.2.1, hn2⟩, List.forall_mem_cons.mpr ⟨Nat.ne_of_gt l9.2.2.1, hn3⟩, List.forall_mem_cons.mpr ⟨Nat.ne_of_gt l9.2.2.2, hn4⟩⟩⟩
          · repeat rw [if_neg (st_ne hy (by decide))]
            rw [if_neg (by rw [hy]; decide)]
          · intro i hi
            rcases hmem' i hi with rfl | hi
            · exact ⟨_, _, _, .head _⟩
            · exact let ⟨a1, a2, a3, a4⟩ := hin' i hi; ⟨a1, a2, a3, .tail _ a4⟩
    · have he0 : its = [] := by
        cases its with
        | nil => rfl
        | cons a r => simp at h0
      have hEl : ends.length ≤ 60 := by have := hI.m; omega
      k_steps
      rename Fr _ _ _ _ => F5
      rename News _ _ _ _ => N5
      refine unmark ?_
      have hlE := PySem.IsL.isList (n := ne) (N5 (le, listOf vsE.toArray ne) (.tail _ (.tail _ (.tail _ (.head _))))).1
      refine kso_sorted F5 N5 hlE hiE (by omega) ?_
      intro D v' n' c' h' F' N' l9 i' e' p' o' b'
      have hs := sorted_eq p' o' hI.f
      subst hs
      k_steps
      · rename News _ _ _ _ => N9
        rw [he0] at hI
        exact ret _ _ _ _ _ _ _ _ _ _ _ _ _ (by k_asm) (exitN N9) hrest hiC hI
      · exfalso
        first
          | exact absurd rfl (of_decide_eq_false (by assumption))
          | (rename ¬ _ = _ => hz9; exact hz9 rfl)
          | simp_all
end Mine
end
section
open PySem PySem.W PyProof.Rows PySem.Calls
namespace Mine
set_option maxRecDepth 100000
set_option maxHeartbeats 4000000
section
variable {prog : Program} {w : World} {A : Around} {R : Result → Shared → Prop} {s : Shared}
theorem compLoop_cell {elt iter : Expr} {x : Str} {px : Pos} {ifs : List Expr} {scope : Scope} {pos : Pos} {I D c : Addr} {fp wr : List Addr} {n : Nat} {P : Nat → Value → Prop} {St : Nat → Heap → Prop}
    {cenv : Env} {m : Str → Option Value} {v₀ : Option Value} (W : Walks prog w A I fp wr n P St) (p : Value → Bool) (F : Value → Value → Prop)
    (hk0 : cenv.scope.kind = .function) (hx : cenv.kindOf x = some .cell) (hc : cenv.cells.lookup x = some c)
    (hDc : D ≠ c) (hCc : cenv.locals ≠ c) (hDC : D ≠ cenv.locals) (hDf : D ∉ fp) (hcf : c ∉ fp) (hCf : cenv.locals ∉ fp)
    (hst : St 0 s.heap) (hacc : s.heap.PlainList D #[]) (hn : s.heap.Ns cenv.locals m) (hv0 : s.heap.IsCell c v₀)
    (htests : ∀ i v s₂ E', P i v → s₂.heap.IsCell c (some v) → (∀ b o, b ≠ c → b ∉ wr → b ≠ D → s.heap.get? b = some o → s₂.heap.get? b = some o) →
      wpAny (model prog w) A (forIn ifs true fun c r => if r = true then do let ok ← isTrue c cenv (eval c cenv); pure (ForInStep.yield ok) else pure (ForInStep.yield r))
        (fun ok s₃ => ok = p v ∧ Keeps s₂ s₃) E' s₂)
    (helt : ∀ i v s₂ E', P i v → p v = true → s₂.heap.IsCell c (some v) → (∀ b o, b ≠ c → b ∉ wr → b ≠ D → s.heap.get? b = some o → s₂.heap.get? b = some o) →
      wpAny (model prog w) A (eval elt cenv) (fun y s₃ => F v y ∧ Keeps s₂ s₃) E' s₂)
    (hR : ∀ h' tk m' ys (vs : List Value), h'.Ns cenv.locals m' → h'.PlainList D ys → vs.length = n → (∀ j v, vs[j]? = some v → P j v) → Paired F (vs.filter p) ys.toList →
      (∀ b o, b ≠ c → b ∉ wr → b ≠ D → s.heap.get? b = some o → h'.get? b = some o) → R (.ok .next) { s with heap := h', toks := tk })
    (hsz : n ≤ sizeLine) :
    codeAny (model prog w) A (.compLoop (.ListComp elt [⟨.Name x px, iter, ifs, 0⟩] scope pos) 0 (.ref I) (.ref D) cenv) R s := by
  refine codeAny_compLoop_tests
    (fun k s' => ∃ h' tk m' v' ys, ∃ vs : List Value, s' = { s with heap := h', toks := tk } ∧ St vs.length h' ∧ h'.PlainList D ys ∧ h'.Ns cenv.locals m' ∧ h'.IsCell c v' ∧ (∀ j v, vs[j]? = some v → P j v) ∧
      Paired F (vs.filter p) ys.toList ∧ vs.length ≤ n ∧ k = n + 1 - vs.length ∧
      (∀ b o, b ≠ c → b ∉ wr → b ≠ D → s.heap.get? b = some o → h'.get? b = some o)) ?_ (n + 1)
    ⟨s.heap, s.toks, m, v₀, #[], [], rfl, hst, hacc, hn, hv0, by simp, by simpa using Paired.nil, Nat.zero_le _, rfl, fun _ _ _ _ _ e => e⟩
  rintro k s' ⟨H, tk, m', v', ys, vs, rfl, hst', hacc', hn', hv', hP, hF, hi, rfl, hk⟩
  have hCw : cenv.locals ∉ wr := fun h => hCf (W.sub _ h)
  have hDw : D ∉ wr := fun h => hDf (W.sub _ h)
  have hcw : c ∉ wr := fun h => hcf (W.sub _ h)
  by_cases hlt : vs.length < n
  · refine W.item vs.length _ _ _ hlt hst' fun v h₁ tk₁ hPv hst₁ hk₁ => ?_
    have hv₁ : h₁.IsCell c v' := let ⟨o, e, r⟩ := hv'; ⟨o, hk₁ _ o hcw e, r⟩
    refine wpAny_assign_Name (wpAny_storeName_cell hk0 hx hc hv₁ fun h₂ hc₂ hs₂ => ?_)
    have up₂ : ∀ b o, b ≠ c → b ∉ wr → H.get? b = some o → h₂.get? b = some o := fun b o hbC hbf e => hs₂.extBut b o hbC (hk₁ b o hbf e)
    have hst₂ : St (vs.length + 1) h₂ := W.frame _ _ _ hst₁ fun b hb o e => hs₂.extBut b o (fun h => hcf (h ▸ hb)) e
    refine wpAny_mono (htests vs.length v _ _ hPv hc₂ (fun b o hbC hbf hbD e => up₂ b o hbC hbf (hk b o hbC hbf hbD e))) (fun ok s₃ h₃ => ?_) fun _ _ e => e
    obtain ⟨rfl, h₃, tk₃, rfl, hk₃⟩ := h₃
    have hst₃ : St (vs.length + 1) h₃ := W.frame _ _ _ hst₂ fun b _ o e => hk₃ b o e
    have hacc₃ : h₃.PlainList D ys := hacc'.at fun o e => hk₃ _ o (up₂ D o hDc hDw e)
    have hn₃ : h₃.Ns cenv.locals m' := hn'.at' fun o e => hk₃ _ o (up₂ _ o hCc hCw e)
    have hc₃ := hc₂.keeps hk₃
    have hP' : ∀ j u, (vs ++ [v])[j]? = some u → P j u := fun j u hj => by
      rcases Nat.lt_trichotomy j vs.length with h | h | h
      · exact hP j u (by rwa [List.getElem?_append_left h] at hj)
      · subst h; simp at hj; subst hj; exact hPv
      · have hnone : (vs ++ [v])[j]? = none := List.getElem?_eq_none (by rw [List.length_append, List.length_singleton]; omega)
        rw [hnone] at hj; cases hj
    cases hpv : p v with
    | false =>
      simp only [Bool.false_eq_true, if_false]
      refine ⟨n + 1 - (vs.length + 1), by omega, h₃, tk₃, m', _, ys, vs ++ [v], rfl, by simpa using hst₃, hacc₃, hn₃, hc₃, hP', ?_, (by rw [List.length_append, List.length_singleton]; exact hlt), (by rw [List.length_append, List.length_singleton]), fun b o hbC hbf hbD e => hk₃ b o (up₂ b o hbC hbf (hk b o hbC hbf hbD e))⟩
      rw [List.filter_append]; simpa [hpv] using hF
    | true =>
      simp only [if_true]
      refine wpAny_mono (helt vs.length v _ _ hPv hpv hc₃ (fun b o hbC hbf hbD e => hk₃ b o (up₂ b o hbC hbf (hk b o hbC hbf hbD e)))) (fun y s₄ h₄ => ?_) fun _ _ e => e
      obtain ⟨hFy, h₄, tk₄, rfl, hk₄⟩ := h₄
      have hys : ys.size ≤ sizeLine := by
        have e1 := hF.length
        have e2 : (vs.filter p).length ≤ vs.length := List.length_filter_le _ _
        have e4 : ys.toList.length = ys.size := by simp
        omega
      refine wpAny_list_append_plain (hsz := hys) (hacc₃.at fun o e => hk₄ _ o e) fun h₅ hl₅ hs₅ => ?_
      refine ⟨n + 1 - (vs.length + 1), by omega, h₅, tk₄, m', _, ys.push y, vs ++ [v], rfl, ?_, hl₅, (hn₃.at' fun o e => hs₅.extBut _ o (Ne.symm hDC) (hk₄ _ o e)), (hc₃.keeps hk₄).sameBut hs₅ (Ne.symm hDc), hP', ?_, (by rw [List.length_append, List.length_singleton]; exact hlt), (by rw [List.length_append, List.length_singleton]),
        fun b o hbC hbf hbD e => hs₅.extBut b o hbD (hk₄ b o (hk₃ b o (up₂ b o hbC hbf (hk b o hbC hbf hbD e))))⟩
      · have := W.frame _ _ h₅ hst₃ fun b hb o e => hs₅.extBut b o (fun h => hDf (h ▸ hb)) (hk₄ b o e)
        simpa using this
      · rw [List.filter_append]; simpa [hpv] using Paired.snoc hF hFy
  · have hin : vs.length = n := by omega
    refine W.done _ _ _ (hin ▸ hst') fun h₁ tk₁ hk₁ => ?_
    exact hR h₁ tk₁ m' ys vs (hn'.at' fun o e => hk₁ _ o hCw e) (hacc'.at fun o e => hk₁ _ o hDw e) hin hP hF fun b o hbC hbf hbD e => hk₁ b o hbf (hk b o hbC hbf hbD e)
end
section
variable {M : Model} {A : Around} {E : Value → Shared → Prop} {s : Shared}
theorem newEnv_cell {scope : Scope} {globals : Addr} {cl : List (Str × Addr)} {qual : Str} {env : Env} {a x b : Str} {Q : Env → Shared → Prop} (hs : scope.names = [(a, .local), (x, .cell), (b, .free)])
    (h : Q { scope := scope, locals := s.heap.objs.size, globals := globals, cells := (x, s.heap.objs.size + 1) :: cl, qual := qual, func := none, code := env.code, frame := env.frame, builtins := env.builtins }
      { s with heap := (s.heap.push { cls := .type "dict", data := .dict #[] }).push { cls := .type "cell", data := .cell none } }) :
    wpAny M A (newFunctionEnv scope globals cl [] qual none .none (some env)) Q E s := by
  unfold newFunctionEnv
  rw [hs]
  refine wpAny_bind (wpAny_alloc ?_)
  have e : (s.heap.push { cls := .type "dict", data := .dict #[] }).objs.size = s.heap.objs.size + 1 := Heap.size_push ..
  refine wpAny_bind ?_
  simp only [List.forIn_cons, List.forIn_nil]
  refine wpAny_bind (wpAny_pure ?_)
  refine wpAny_bind (wpAny_bind (wpAny_alloc (wpAny_pure ?_)))
  refine wpAny_bind (wpAny_pure ?_)
  refine wpAny_pure ?_
  refine wpAny_bind (wpAny_pure ?_)
  refine wpAny_pure ?_
  dsimp only
  simp only [Option.isSome_some, if_true]
  rw [e]
  exact h
end
section
variable {prog : Program} {w : World} {A : Around} {E : Value → Shared → Prop} {s : Shared} {env : Env}
structure QuietC (prog : Program) (w : World) (A : Around) (env : Env) (scope : Scope) (cl : List (Str × Addr)) (x : Str) (ifs : List Expr) (elt : Expr) (wr : List Addr) (P : Nat → Value → Prop) (p : Value → Bool)
    (F : Value → Value → Prop) (s₂ : Shared) : Prop where
  tests : ∀ C c i v s₃ E', P i v → s₃.heap.IsCell c (some v) → (∀ b o, b ∉ wr → s₂.heap.get? b = some o → s₃.heap.get? b = some o) →
    wpAny (model prog w) A (forIn ifs true fun t r => if r = true then do let ok ← isTrue t (compEnvC scope ((x, c) :: cl) C env) (eval t (compEnvC scope ((x, c) :: cl) C env)); pure (ForInStep.yield ok) else pure (ForInStep.yield r))
      (fun ok s₄ => ok = p v ∧ Keeps s₃ s₄) E' s₃
  elt : ∀ C c i v s₃ E', P i v → p v = true → s₃.heap.IsCell c (some v) → (∀ b o, b ∉ wr → s₂.heap.get? b = some o → s₃.heap.get? b = some o) →
    wpAny (model prog w) A (eval elt (compEnvC scope ((x, c) :: cl) C env)) (fun y s₄ => F v y ∧ Keeps s₃ s₄) E' s₃
theorem listComp_cell {elt iter : Expr} {x a b : Str} {px : Pos} {ifs : List Expr} {scope : Scope} {cl : List (Str × Addr)} {pos : Pos} {Q : Value → Shared → Prop} (p : Value → Bool) (F : Value → Value → Prop)
    (hs3 : scope.names = [(a, .local), (x, .cell), (b, .free)]) (hclos : closureFor scope env = pure cl) (hkind : scope.kind = .function)
    (hnames : ∀ y ∈ scope.names, y.2 = .local → scope.names.lookup y.1 = some .local) (hx : (relabel scope env).names.lookup x = some .cell)
    (h : wpAny (model prog w) A (eval iter env) (fun xv s₁ => wpAny (model prog w) A (pyIter xv) (fun it s₂ => ∃ I fp wr n P St, it = .ref I ∧ Walks prog w A I fp wr n P St ∧ n ≤ sizeLine ∧ St 0 s₂.heap ∧ (∀ b ∈ fp, b < s₂.heap.objs.size) ∧
      QuietC prog w A env scope cl x ifs elt wr P p F s₂ ∧
      (∀ D h' tk ys (vs : List Value), s₂.heap.get? D = none → h'.PlainList D ys → vs.length = n → (∀ j v, vs[j]? = some v → P j v) → Paired F (vs.filter p) ys.toList →
        (∀ b o, b ∉ wr → s₂.heap.get? b = some o → h'.get? b = some o) → Q (.ref D) { s₂ with heap := h', toks := tk })) E s₁) E s)
    (hs : ∀ x, foldedSetIterable iter env x = pure x := by intro _; rfl) :
    wpAny (model prog w) A (eval (.ListComp elt [⟨.Name x px, iter, ifs, 0⟩] scope pos) env) Q E s := by
  rw [eval_ListComp]
  refine wpAny_comprehension_free (use := none) rfl hs hclos hkind hnames (wpAny_mono h (fun xv s₁ h₁ => wpAny_mono h₁ (fun it s₂ h₂ => ?_) fun _ _ e => e) fun _ _ e => e)
  obtain ⟨I, fp, wr, n, P, St, rfl, W, hsz, hst, hfp, hq, hQ⟩ := h₂
  refine wpAny_newObj_type (newEnv_cell hs3 ?_)
  dsimp only
  generalize hH2 : s₂.heap.push { cls := .type "list", dict := none, data := .seq ([] : List Value).toArray } = H2
  have hC : H2.objs.size = s₂.heap.objs.size + 1 := by rw [← hH2, Heap.size_push]
  generalize hH3 : (H2.push { cls := .type "dict", data := .dict #[] }).push { cls := .type "cell", data := .cell none } = H3
  have old : ∀ b o, s₂.heap.get? b = some o → H3.get? b = some o := fun b o e => hH3 ▸ Heap.get?_push_of_some _ (Heap.get?_push_of_some _ (hH2 ▸ Heap.get?_push_of_some _ e))
  have hD : H3.PlainList s₂.heap.objs.size #[] := ⟨_, hH3 ▸ Heap.get?_push_of_some _ (Heap.get?_push_of_some _ (hH2 ▸ Heap.get?_push_size _ rfl))⟩
  have hN : H3.Ns H2.objs.size (fun _ => none) := ⟨_, #[], _, hH3 ▸ Heap.get?_push_of_some _ (Heap.get?_push_size _ rfl), rfl, fun e he => absurd he (by simp), fun _ => rfl⟩
  have e3 : (H2.push { cls := .type "dict", data := .dict #[] }).objs.size = H2.objs.size + 1 := Heap.size_push ..
  have hc : H3.IsCell (H2.objs.size + 1) none := ⟨_, by rw [← hH3, ← e3]; exact Heap.get?_push_size _ rfl, rfl⟩
  have lt : ∀ b, b < s₂.heap.objs.size → b ≠ s₂.heap.objs.size ∧ b ≠ H2.objs.size ∧ b ≠ H2.objs.size + 1 := fun b hb => by
    have hb' : @LT.lt Nat _ b s₂.heap.objs.size := hb
    refine ⟨Nat.ne_of_lt hb, ?_, ?_⟩
    · rw [hC]; exact Nat.ne_of_lt (by omega)
    · rw [hC]; exact Nat.ne_of_lt (by omega)
  have nf : ∀ b, ¬ b < s₂.heap.objs.size → b ∉ fp := fun b hb hm => hb (hfp b hm)
  have none_of : ∀ b, ¬ b < s₂.heap.objs.size → s₂.heap.get? b = none := fun b hb => by
    cases e : s₂.heap.get? b with
    | none => rfl
    | some o => exact absurd (Heap.lt_size e) hb
  have g1 : ¬ s₂.heap.objs.size < s₂.heap.objs.size := Nat.lt_irrefl _
  have g2 : ¬ H2.objs.size < s₂.heap.objs.size := by rw [hC]; exact Nat.not_lt.mpr (Nat.le_succ _)
  have g3 : ¬ H2.objs.size + 1 < s₂.heap.objs.size := by rw [hC]; exact Nat.not_lt.mpr (by omega)
  have hst₁ : St 0 H3 := W.frame _ _ _ hst fun b _ o e => old b o e
  have loop : codeAny (model prog w) A (.compLoop (.ListComp elt [⟨.Name x px, iter, ifs, 0⟩] scope pos) 0 (.ref I) (.ref s₂.heap.objs.size) (compEnvC scope ((x, H2.objs.size + 1) :: cl) H2.objs.size env))
      (compPost (model prog w) A E none Q (.ref s₂.heap.objs.size) H2.objs.size) { s₂ with heap := H3 } := by
    refine compLoop_cell (c := H2.objs.size + 1) (cenv := compEnvC scope ((x, H2.objs.size + 1) :: cl) H2.objs.size env) W p F hkind hx (by simp [compEnvC]) ?_ ?_ ?_ (nf _ g1) (nf _ g3) (nf _ g2) hst₁ hD hN hc
      (fun i v s₃ E' hv hcv hk => hq.tests _ _ i v s₃ E' hv hcv fun b o hbf e => hk b o (lt b (Heap.lt_size e)).2.2 hbf (lt b (Heap.lt_size e)).1 (old b o e))
      (fun i v s₃ E' hv hpv hcv hk => hq.elt _ _ i v s₃ E' hv hpv hcv fun b o hbf e => hk b o (lt b (Heap.lt_size e)).2.2 hbf (lt b (Heap.lt_size e)).1 (old b o e)) ?_ hsz
    · rw [hC]; exact Nat.ne_of_lt (by omega)
    · exact Nat.ne_of_lt (Nat.lt_succ_self _)
    · show s₂.heap.objs.size ≠ H2.objs.size
      rw [hC]; exact Nat.ne_of_lt (Nat.lt_succ_self _)
    · intro h' tk m' ys vs hn ha hlen hP hF hk
      refine ⟨m', hn, fun h'' hs'' => hQ _ h'' tk ys vs (none_of _ g1) (ha.extBut hs''.extBut ?_) hlen hP hF fun b o hbf e => hs''.extBut b o (lt b (Heap.lt_size e)).2.1 (hk b o (lt b (Heap.lt_size e)).2.2 hbf (lt b (Heap.lt_size e)).1 (old b o e))⟩
      rw [hC]; exact Nat.ne_of_lt (Nat.lt_succ_self _)
  exact codeAny_compStart_list loop (W.self 0 _ _ _ hst₁ loop)
end
end Mine
namespace Mine
open PySem.W PyProof.Rows
def covB (ps : List (Int × Int)) (k : Int) : Bool := ps.any fun p => decide (p.1 ≤ k) && decide (k < p.2)
theorem covB_iff {ps : List (Int × Int)} {k : Int} : covB ps k = true ↔ cov ps k := by
  simp only [covB, List.any_eq_true, Bool.and_eq_true, decide_eq_true_eq]
  exact Iff.rfl
def covV (ps : List (Int × Int)) (v : Value) : Bool := match v with | .int k _ => covB ps k | _ => false
end Mine
namespace Mine
open PySem.W PyProof.Rows
def covR (prs : List Item) (k : Int) (v : Value) : Bool := match v with | .ref a => prs.any fun i => decide (i.1 = a) && (decide (i.2.1 ≤ k) && decide (k < i.2.2)) | _ => false
/-- the items stand in the heap -/
def ItemsH (h : Heap) (prs : List Item) : Prop := ∀ i ∈ prs, ∃ t u n, h.get? i.1 = some (listOf #[.int i.2.1 t, .int i.2.2 u] n)
theorem ItemsH.keeps {h h' : Heap} {prs : List Item} (x : ItemsH h prs) (k : ∀ b o, h.get? b = some o → h'.get? b = some o) : ItemsH h' prs := fun i hi => let ⟨t, u, n, e⟩ := x i hi; ⟨t, u, n, k _ _ e⟩
theorem ItemsH.same {h : Heap} {prs : List Item} (x : ItemsH h prs) {i j : Item} (hi : i ∈ prs) (hj : j ∈ prs) (e : i.1 = j.1) : i.2 = j.2 := by
  obtain ⟨t, u, n, h1⟩ := x i hi
  obtain ⟨t', u', n', h2⟩ := x j hj
  rw [e, h2] at h1
  injection h1 with h1
  injection h1 with _ _ h1 _
  injection h1 with h1 _
  have h3 := congrArg Array.toList h1
  simp at h3
  exact Prod.ext h3.1.1.symm h3.2.1.symm
theorem covR_at {h : Heap} {prs : List Item} (x : ItemsH h prs) {i : Item} (hi : i ∈ prs) (k : Int) : covR prs k (.ref i.1) = (decide (i.2.1 ≤ k) && decide (k < i.2.2)) := by
  unfold covR
  simp only
  cases hb : (decide (i.2.1 ≤ k) && decide (k < i.2.2)) with
  | true =>
    rw [List.any_eq_true]
    exact ⟨i, hi, by simp only [decide_true, Bool.true_and]; exact hb⟩
  | false =>
    rw [List.any_eq_false]
    intro j hj
    by_cases e : j.1 = i.1
    · have := x.same hj hi e
      rw [this]
      simp only [e, decide_true, Bool.true_and]
      rw [hb]; simp
    · simp [e]
theorem reads_itemsH {h : Heap} {prs : List Item} (x : ItemsH h prs) : ∀ its : List Item, (∀ i ∈ its, i ∈ prs) → ReadsAll h (its.map fun i => Value.ref i.1) (datOf its) (its.map (·.1))
  | [], _ => .nil
  | i :: r, hi => by
    obtain ⟨t, u, n, e⟩ := x i (hi i (.head _))
    exact .cons (as := [i.1]) (Reads.list e rfl rfl (.cons (.int _ _) (.cons (.int _ _) .nil))) (reads_itemsH x r fun j hj => hi j (.tail _ hj))
theorem any_filter {prs : List Item} {q : Item → Bool} {k : Int} (hq : ∀ i ∈ prs, q i = (decide (i.2.1 ≤ k) && decide (k < i.2.2))) : decide (0 < (prs.filter q).length) = covB (prs.map (·.2)) k := by
  have e : covB (prs.map (·.2)) k = prs.any q := by
    unfold covB
    rw [List.any_map]
    induction prs with
    | nil => rfl
    | cons i r ih =>
      rw [List.any_cons, List.any_cons, ih fun j hj => hq j (.tail _ hj), hq i (.head _)]; rfl
  rw [e]
  cases hb : prs.any q with
  | true =>
    obtain ⟨i, hi, h⟩ := List.any_eq_true.mp hb
    exact decide_eq_true (List.length_pos_of_mem (List.mem_filter.mpr ⟨hi, h⟩))
  | false =>
    have : prs.filter q = [] := by
      rw [List.filter_eq_nil_iff]
      intro i hi
      have := List.any_eq_false.mp hb i hi
      exact this
    rw [this]; simp
theorem paired_eq {l l' : List Value} (h : Paired (fun v y => y = v) l l') : l' = l := by
  induction h with
  | nil => rfl
  | cons h1 _ ih => rw [h1, ih]
end Mine
namespace Mine
open PySem.W PyProof.Rows
theorem refs_of {prs : List Item} {vs : List Value} (hlen : vs.length = (vals prs).size) (hP : ∀ (j : Nat) v, vs[j]? = some v → (vals prs)[j]? = some v) : vs = prs.map fun i => Value.ref i.1 := by
  have e : (vals prs).toList = prs.map fun i => Value.ref i.1 := by simp [vals]
  rw [← e]
  refine List.ext_getElem? fun j => ?_
  by_cases h : j < vs.length
  · rw [List.getElem?_eq_getElem h]
    have := hP j _ (List.getElem?_eq_getElem h)
    rw [← this]; simp
  · rw [List.getElem?_eq_none (by omega), List.getElem?_eq_none (by simp at hlen ⊢; omega)]
theorem filter_refs {prs : List Item} {p : Value → Bool} : (prs.map fun i => Value.ref i.1).filter p = (prs.filter fun i => p (.ref i.1)).map fun i => Value.ref i.1 := by
  rw [List.filter_map]; rfl
theorem eqv_nil {its : List Item} : (!PyData.eqv (.list (datOf its)) (.list [])) = decide (0 < its.length) := by
  cases its with
  | nil => simp [datOf, PyData.eqv, PyData.eqvAll]
  | cons i r => simp [datOf, PyData.eqv, PyData.eqvAll]
end Mine
namespace Mine
open PySem.W PyProof.Rows
def rng (n : Nat) : List Int := (List.range n).map fun (j : Nat) => (j : Int)
theorem ints_rng {vs : List Value} {n : Nat} (hlen : vs.length = n) (hP : ∀ (j : Nat) v, vs[j]? = some v → ∃ t, v = Value.int (0 + (j : Int)) t) : IntsAre vs (rng n) := by
  induction n generalizing vs with
  | zero =>
    cases vs with
    | nil => exact .nil
    | cons a r => simp at hlen
  | succ n ih =>
    have h0 : 0 < vs.length := by omega
    obtain ⟨a, b, rfl⟩ := ex_concat h0
    have ha : a.length = n := by simp at hlen; exact hlen
    have h1 := ih (vs := a) ha fun j v hj => hP j v (by
      have : j < a.length := by
        rcases Nat.lt_or_ge j a.length with h | h
        · exact h
        · rw [List.getElem?_eq_none h] at hj; cases hj
      rw [List.getElem?_append_left this]; exact hj)
    obtain ⟨t, rfl⟩ := hP n b (by rw [← ha]; simp)
    have e : rng (n + 1) = rng n ++ [(n : Int)] := by simp [rng, List.range_succ]
    rw [e]
    refine IntsAre.append h1 ?_
    rw [show (0 : Int) + (n : Int) = (n : Int) by omega]
    exact .cons _ _ .nil
theorem ints_filter {vs : List Value} {ns : List Int} (h : IntsAre vs ns) {p : Value → Bool} {q : Int → Bool} (hpq : ∀ k t, p (.int k t) = q k) : IntsAre (vs.filter p) (ns.filter q) := by
  induction h with
  | nil => exact .nil
  | cons k t _ ih =>
    rw [List.filter_cons, List.filter_cons, hpq]
    cases q k with
    | true => exact .cons k t ih
    | false => exact ih
end Mine
namespace Mine
open PySem.W PyProof.Rows
def notV (sg : List Int) (v : Value) : Bool := match v with | .int k _ => !(sg.any (· == k)) | _ => false
def chV (x : Str) (v y : Value) : Prop := ∃ k tk t, v = Value.int k tk ∧ y = Value.str (Txt.item x k) t
theorem strs_of {x : Str} : ∀ {vs ys : List Value} {ks : List Int}, IntsAre vs ks → Paired (chV x) vs ys → ∃ l : List (Str × Tok), ys = strValues l ∧ l.map (·.1) = ks.map (Txt.item x)
  | _, _, _, .nil, .nil => ⟨[], rfl, rfl⟩
  | _, _, _, .cons k t h, .cons ⟨k', tk, t', e1, e2⟩ r => by
    obtain ⟨l, h1, h2⟩ := strs_of h r
    cases e1
    exact ⟨(Txt.item x k, t') :: l, by rw [e2, h1]; rfl, by rw [List.map_cons, h2]; rfl⟩
theorem call_join {prog : Program} {w : World} {A : Around} {E : Value → Shared → Prop} {s : Shared} {sep : Str} {t : Tok} {D : Addr} {l : List (Str × Tok)} {Q : Value → Shared → Prop} (hl : s.heap.IsList D (strValues l).toArray) (hok : JoinOk sep (l.map (·.1)) = true)
    (hq : ∀ t' k, Q (.str (Txt.join sep (l.map (·.1))) t') { s with toks := k }) : wpAny (model prog w) A (call (.builtin "str.join") [.str sep t, .ref D]) Q E s := by
  unfold JoinOk at hok
  rw [Bool.not_eq_true'] at hok
  exact call_meets F.slot_str_join (typeIs_str _ _ _) F.entry_str_join (F.args_str_join_2 _ _) (meets_str_join_list sep t D l hok) ⟨hl, post_join l ⟨joinFit_length hok, hq⟩⟩
end Mine
namespace Mine
open PySem.W PyProof.Rows
theorem range_walksB {prog : Program} {w : World} {A : Around} {I : Addr} (hh : A.handled = none) (n : Nat) : Walks prog w A I [I] [I] n (fun i v => i < n ∧ ∃ t, v = Value.int (0 + (i : Int)) t) (fun i h => IsRangeIter h I (0 + (i : Nat) * 1) ((n : Int) - (i : Nat)) 1) :=
  let W9 := LCg.range_walks (prog := prog) (w := w) (A := A) (I := I) hh 0 n
  { sub := W9.sub, frame := W9.frame, done := W9.done, self := W9.self, item := fun i s Q E hi st hQ => W9.item i s Q E hi st fun v h' tk hP => hQ v h' tk ⟨hi, hP⟩ }
end Mine
namespace Mine
open PySem.W PyProof.Rows
theorem fold_len (sep : Str) (hs : sep.length = 0) : ∀ (ts : List Str) (a : Nat), (∀ y ∈ ts, y.length ≤ 1) → ts.foldl (fun n y => n + y.length + sep.length) a ≤ a + ts.length
  | [], a, _ => Nat.le_refl _
  | y :: r, a, h => by
    rw [List.foldl_cons, List.length_cons]
    have := fold_len sep hs r (a + y.length + sep.length) fun z hz => h z (.tail _ hz)
    have := h y (.head _)
    omega
theorem joinOk_short (sep : Str) (hs : sep.length = 0) (ts : List Str) (h : ∀ y ∈ ts, y.length ≤ 1) (hl : ts.length ≤ 100) : JoinOk sep ts = true := by
  unfold JoinOk
  have h1 := fold_len sep hs ts 0 h
  have e : (ts.toArray.foldl (fun n y => n + y.length + sep.length) 0) = ts.foldl (fun n y => n + y.length + sep.length) 0 := by simp
  rw [e]
  generalize ts.foldl (fun n y => n + y.length + sep.length) 0 = k at h1
  have hk : k ≤ 100 := by omega
  rw [Bool.not_eq_true']
  unfold Builtin.Str.tooLong
  rw [decide_eq_false_iff_not]
  have := sizeLine_eq
  omega
end Mine
end
section
open PySem PySem.W PyProof.Rows PySem.Calls
namespace Mine
set_option maxRecDepth 100000
set_option maxHeartbeats 1600000
local macro_rules | `(tactic| k_room) => `(tactic| ktr_room)
local macro_rules | `(tactic| k_all) => `(tactic| assumption)
local macro_rules | `(tactic| k_all) => `(tactic| exact rest_ne (by assumption) (by omega))
local macro_rules | `(tactic| walk_at "eval ListComp") => `(tactic| (refine mark ?_))
local macro_rules | `(tactic| walk_at "eval Name") => `(tactic| (refine wpAny_Name (wpAny_loadName_local rfl rfl (by assumption) (by assumption) ?_) (by decide)))
local macro_rules | `(tactic| walk_at "eval Name") => `(tactic| (refine wpAny_Name (wpAny_loadName_cell rfl rfl rfl (by assumption) ?_) (by decide)))
local macro_rules | `(tactic| walk_at "call builtin:str.join") => `(tactic| (refine mark ?_))
local macro_rules | `(tactic| walk_at "subscriptTail") => `(tactic| ((with_reducible show wpAny _ _ (subscriptTail _ (Expr.Slice none none (some _) _) _ _) _ _ _); refine mark ?_))
local macro_rules | `(tactic| walk_at "pyIter ref") => `(tactic| (refine mark ?_))
theorem dueN {g h : Heap} {L : Addr} {r1 r2 a b c d : Addr × Obj} {rest : List (Addr × Obj)} (N : News g L h (r1 :: r2 :: a :: b :: c :: d :: rest)) : News g L h (r1 :: r2 :: rest) := fun p hp => by
  rcases List.mem_cons.mp hp with rfl | hp
  · exact N _ (.head _)
  rcases List.mem_cons.mp hp with rfl | hp
  · exact N _ (.tail _ (.head _))
  exact N _ (.tail _ (.tail _ (.tail _ (.tail _ (.tail _ (.tail _ hp))))))
theorem due_c {w : World} {mean : ExcName → Option Value} {mg mb : Str → Option Value}
  (dp un : Nat) (gd : Option (List Code)) (cn : Str) (cs : Scope) (a : Addr) (ccd : Value) (cl : List (Str × Addr)) (outer : List Env) (A₀ : Around) (base h₀ : Heap) (L : Addr) (m : Str → Option Value) (rest : List (Addr × Obj)) (s : Shared)
  (x : Str) (t : Tok) (ls : Addr) (prs : List Item) (np : Nat) (Q E : Value → Shared → Prop)
  (B : Below A₀ base outer h₀) (F : Fr h₀ L s.heap m) (X : (hd.heap_39 w.params).In h₀) (N : News h₀ L s.heap rest) (T : Top topProg LOOSE mean mg mb h₀) (hk : cs.kind = .function)
  (hx : x.length ≤ 100) (hls : (ls, listOf (vals prs) np) ∈ rest) (hin : ItemsIn rest prs) (hlp : prs.length ≤ 90)
  (hd : dp + 5 < recursionLimit) (hu : un + 1000 < cLine)
  (ret : ∀ lr n1 lcx ws nc ty h' tk', Fr h₀ L h' m → News h₀ L h' ((lr, listOf #[.str (Txt.join (Str.ofString "") (((rng x.length).filter fun k => !(((rng x.length).filter (covB (prs.map (·.2)))).any (· == k))).map (Txt.item x))) ty, .ref lcx] n1) :: (lcx, listOf (List.toArray ws) nc) :: rest) → IntsAre ws ((rng x.length).filter (covB (prs.map (·.2)))).reverse → Q (.ref lr) { s with heap := h', toks := tk' }) :
  wpAny (model PR w) (ktrTop dp un gd cn cs L a ccd cl outer) (call (.ref 75) [.str x t, .ref ls]) Q E s := by
  have hz : PySem.Challenge.rw_nb0076_01 = PySem.Challenge.rw_nb0076_01 ∧ Mine.hd.heap_39 w.params = Mine.hd.heap_39 w.params := by (k_fill; exact ⟨rfl, rfl⟩)
  clear hz
  refine wpAny_call ?_
  refine' code_defC ?k1 ?k2 ?k3 ?k4 ?k5 ?kA ?kF ?kK ?k6 ?k7 ?k8 ?k9 ?kB ?kD ?_ ?c2 ?c3 ?c4; (case kA => exact rfl); (case kF => exact rfl); (case kK => assumption); (case k1 => k_asm); (case k2 => k_asm); (case k3 => k_asm); (case k4 => k_asm); (case k5 => k_asm); (case k6 => k_is); (case k7 => k_is); (case k8 => ktr_room); (case k9 => exact BindsTo.of_eq rfl); (case kB => exact rfl); (case kD => decide +kernel); (case c2 => exact rfl); (case c3 => exact rfl); (case c4 => exact rfl); k_whole
  intro g' L' h' tk' cells' FG' F' N' Y' B' X' T' l1
  (try k_lt l1)
  k_cells Y'
  (try simp only [List.cons_append, List.nil_append] at N')
  (try dsimp only)
  (try k_lift B')
  (try k_fold)
  k_steps
  refine unmark ?_
  rename_i oS oT oX d1 d2 d3
  have dS : oS.data = .cell none := d1
  have dT : oT.data = .cell (some (.ref ls)) := d2
  have dX : oX.data = .cell (some (.str x t)) := d3
  clear d1 d2 d3
  rename Fr _ _ _ _ => F1
  rename News _ _ _ _ => N1
  refine listComp_cell (covV (prs.map (·.2))) (fun v y => y = v) rfl rfl rfl (by decide) rfl ?_
  k_steps
  rename IsRange _ _ _ _ _ _ _ _ => hr
  rename Fr _ _ _ _ => F2
  rename News _ _ _ _ => N2
  refine unmark ?_
  refine wpAny_pyIter_range hr (small_one (by omega) (by omega) (by omega) (by omega)) ?_
  dsimp only at hr F2 N2 ⊢
  rename Heap => H
  have gT : H.get? (L' + 1 + 1) = some oT := (N2 (L' + 1 + 1, oT) (.tail _ (.head _))).1
  have gX : H.get? (L' + 1) = some oX := (N2 (L' + 1, oX) (.tail _ (.tail _ (.head _)))).1
  have gl : H.get? ls = some (listOf (vals prs) np) := (N2 (ls, listOf (vals prs) np) (.tail _ (.tail _ (.tail _ hls)))).1
  have gi : ItemsH H prs := fun i hi => let ⟨a1, a2, a3, a4⟩ := hin i hi; ⟨a1, a2, a3, (N2 _ (.tail _ (.tail _ (.tail _ a4)))).1⟩
  have hn9 : Builtin.Range.rangeSize 0 (x.length : Int) 1 = ((x.length : Nat) : Int) := by unfold Builtin.Range.rangeSize; rw [if_pos (by decide)]; split <;> omega
  refine ⟨_, [_], [_], x.length, _, _, rfl, LCg.range_walks rfl 0 x.length, by rw [sizeLine_eq]; omega, ?_, ?_, ⟨?_, ?_⟩, ?_⟩
  · show IsRangeIter _ _ _ _ _
    rw [hn9]
    simpa using Heap.get?_push_size _ rfl
  · intro b hb
    rw [List.mem_singleton.mp hb]
    show H.objs.size < (H.push _).objs.size
    rw [Heap.size_push]; exact Nat.lt_succ_self _
  · rintro C c i v s₃ E' ⟨tk3, rfl⟩ hc hk3
    have K3 : ∀ b o, H.get? b = some o → s₃.heap.get? b = some o := fun b o e => hk3 b o (fun hb => Nat.lt_irrefl _ ((List.mem_singleton.mp hb) ▸ Heap.lt_size e)) (Heap.get?_push_of_some _ e)
    clear hk3
    have gl3 := K3 _ _ gl
    have gi3 := gi.keeps K3
    have hl3 : s₃.heap.IsList ls (vals prs) := ⟨_, gl3, rfl, np, rfl⟩
    have sz3 : (vals prs).size = prs.length := vals_size
    refine wpAny_tests_one (wpAny_isTrue_Compare1 ?_)
    refine wpAny_ListComp_free (covR prs (0 + (i : Int))) (fun v y => y = v) rfl (by decide) rfl (by decide) rfl ?_
    refine wpAny_Name (wpAny_loadName_cell rfl rfl rfl ⟨oT, K3 _ _ gT, dT⟩ ?_) (by decide)
    refine wpAny_pyIter_list hl3 ?_
    have hlt3 : ls < s₃.heap.objs.size := Heap.lt_size gl3
    refine ⟨_, [_, ls], [_], (vals prs).size, _, _, rfl, Walks.list rfl s₃.heap.objs.size ls (Nat.ne_of_lt hlt3) (vals prs), by rw [sizeLine_eq]; omega, ⟨⟨_, Heap.get?_push_size _ rfl, rfl, rfl⟩, hl3.push _⟩, ?_, ⟨?_, ?_⟩, ?_⟩
    · intro b hb
      show b < (s₃.heap.push _).objs.size
      rw [Heap.size_push]
      rcases List.mem_cons.mp hb with rfl | hb
      · exact Nat.lt_succ_self _
      · rw [List.mem_singleton.mp hb]; exact Nat.lt_succ_of_lt hlt3
    · intro C' j v s₄ m₄ E'' hC' hj hns hm hk4 htk
      have K4 : ∀ b o, s₃.heap.get? b = some o → s₄.heap.get? b = some o := fun b o e => hk4 b o (fun hb => Nat.lt_irrefl _ ((List.mem_singleton.mp hb) ▸ Heap.lt_size e)) (Heap.get?_push_of_some _ e)
      clear hk4
      have hjl : j < prs.length := by
        obtain ⟨hz, -⟩ := Array.getElem?_eq_some_iff.mp hj
        omega
      rw [vals_get hjl] at hj
      cases hj
      have hmem : prs.getD j default ∈ prs := by simp [List.getD_eq_getElem?_getD, hjl]
      obtain ⟨a1, a2, a3, a4⟩ := (gi3.keeps K4) _ hmem
      have hl4 : s₄.heap.IsList (prs.getD j default).1 #[Value.int (prs.getD j default).2.1 a1, Value.int (prs.getD j default).2.2 a2] := ⟨_, a4, rfl, a3, rfl⟩
      have hc4 := hc.keeps K4
      refine wpAny_tests_one ?_
      k_steps
      · rw [covR_at (gi3.keeps K4) hmem, show decide ((prs.getD j default).2.1 ≤ 0 + (i : Int)) = true from decide_eq_true (by assumption), Bool.true_and]; rfl
      · exact ⟨_, _, rfl, fun _ _ e => e⟩
      · rw [covR_at (gi3.keeps K4) hmem, show decide ((prs.getD j default).2.1 ≤ 0 + (i : Int)) = false from decide_eq_false (by assumption), Bool.false_and]
      · exact ⟨_, _, rfl, fun _ _ e => e⟩
    · intro C' j v s₄ m₄ E'' hC' hj hp hns hm hk4 htk
      exact wpAny_Name (wpAny_loadName_local rfl rfl hns hm ⟨rfl, ⟨_, _, rfl, fun _ _ e => e⟩⟩) (by decide)
    · intro D h4 tk4 ys vs hD hIs hPl hlen hP hF hk4
      have K4 : ∀ b o, s₃.heap.get? b = some o → h4.get? b = some o := fun b o e => hk4 b o (fun hb => Nat.lt_irrefl _ ((List.mem_singleton.mp hb) ▸ Heap.lt_size e)) (Heap.get?_push_of_some _ e)
      have hvs := refs_of hlen hP
      have hys := paired_eq hF
      rw [hvs, filter_refs] at hys
      obtain ⟨nD, hPl⟩ := hPl
      refine List_ ?_
      refine wpAny_pure ?_
      refine wpAny_newObj_type ?_ (by size_fits)
      refine ne_dataH (da := .list (datOf (prs.filter fun q => covR prs (0 + (i : Int)) (.ref q.1)))) (db := .list []) (as := D :: (prs.filter fun q => covR prs (0 + (i : Int)) (.ref q.1)).map (·.1)) (Reads.list (Heap.get?_push_of_some _ hPl) rfl rfl ?_) (Reads.list (Heap.get?_push_size _ rfl) rfl rfl .nil) (shaped_items _) (by decide) ?_ ?_
      · rw [hys]
        exact reads_itemsH ((gi3.keeps K4).keeps fun b o e => Heap.get?_push_of_some _ e) _ fun q hq => (List.mem_filter.mp hq).1
      · ktr_units
      · refine wpAny_truthy_bool ⟨?_, ⟨_, _, rfl, fun b o e => Heap.get?_push_of_some _ (K4 b o e)⟩⟩
        rw [eqv_nil, any_filter fun q hq => covR_at gi3 hq _]
        rfl
  · rintro C c i v s₃ E' ⟨tk3, rfl⟩ hp hc hk3
    exact wpAny_Name (wpAny_loadName_cell rfl rfl rfl hc ⟨rfl, ⟨_, _, rfl, fun _ _ e => e⟩⟩) (by decide)
  · intro D h4 tk4 ys vs hD hPl hlen hP hF hk4
    have K4 : ∀ b o, H.get? b = some o → h4.get? b = some o := fun b o e => hk4 b o (fun hb => Nat.lt_irrefl _ ((List.mem_singleton.mp hb) ▸ Heap.lt_size e)) (Heap.get?_push_of_some _ e)
    have hD0 : H.get? D = none := by
      cases e : H.get? D with
      | none => rfl
      | some o => rw [show (H.push _).get? D = some o from Heap.get?_push_of_some _ e] at hD; cases hD
    obtain ⟨nD, gD⟩ := hPl
    have hys := paired_eq hF
    have hiS : IntsAre ys.toList ((rng x.length).filter (covB (prs.map (·.2)))) := by
      rw [hys]; exact ints_filter (ints_rng hlen hP) fun k t => rfl
    have gS : H.get? (L' + 1 + 1 + 1) = some oS := (N2 (L' + 1 + 1 + 1, oS) (.head _)).1
    have hneS : @Ne Nat D (L' + 1 + 1 + 1) := fun e => by rw [e, gS] at hD0; cases hD0
    have F3 := F2.keeps K4
    have N3 : News g' L' h4 ((D, listOf ys.toList.toArray nD) :: (L' + 1 + 1 + 1, oS) :: (L' + 1 + 1, oT) :: (L' + 1, oX) :: rest) := by
      intro p hp
      rcases List.mem_cons.mp hp with rfl | hp
      · refine ⟨by simpa using gD, fun e => ?_, ?_⟩
        · obtain ⟨oL, _, _, hoL, _⟩ := F2.ns
          have e' : D = L' := e
          rw [e', hoL] at hD0; cases hD0
        · cases e : g'.get? D with
          | none => rfl
          | some o => rw [F2.keep _ _ e] at hD0; cases hD0
      · exact ⟨K4 _ _ (N2 p hp).1, (N2 p hp).2⟩
    clear hk4 hD K4 hF hP hlen gD hys gS F2 N2 gi gl gT gX hr hn9
    generalize ys.toList = vsS at hiS N3
    k_steps
    refine unmark ?_
    rename_i h5 oS' F5 N5 dS'
    refine wpAny_ListComp_free (notV ((rng x.length).filter (covB (prs.map (·.2))))) (chV x) rfl (by decide) rfl (by decide) rfl ?_
    k_steps
    rename IsRange _ _ _ _ _ _ _ _ => hr
    rename Fr _ _ _ _ => F6
    rename News _ _ _ _ => N6
    refine unmark ?_
    refine wpAny_pyIter_range hr (small_one (by omega) (by omega) (by omega) (by omega)) ?_
    dsimp only at hr F6 N6 ⊢
    rename Heap => H2
    have gS2 : H2.get? (L' + 1 + 1 + 1) = some oS' := (N6 (L' + 1 + 1 + 1, oS') (.tail _ (.head _))).1
    have gX2 : H2.get? (L' + 1) = some oX := (N6 (L' + 1, oX) (.tail _ (.tail _ (.tail _ (.head _))))).1
    have gD2 : H2.get? D = some (listOf vsS.toArray nD) := (N6 (D, listOf vsS.toArray nD) (.head _)).1
    have hn9 : Builtin.Range.rangeSize 0 (x.length : Int) 1 = ((x.length : Nat) : Int) := by unfold Builtin.Range.rangeSize; rw [if_pos (by decide)]; split <;> omega
    refine ⟨_, [_], [_], x.length, _, _, rfl, range_walksB rfl x.length, by rw [sizeLine_eq]; omega, ?_, ?_, ⟨?_, ?_⟩, ?_⟩
    · show IsRangeIter _ _ _ _ _
      rw [hn9]
      simpa using Heap.get?_push_size _ rfl
    · intro b hb
      rw [List.mem_singleton.mp hb]
      show H2.objs.size < (H2.push _).objs.size
      rw [Heap.size_push]; exact Nat.lt_succ_self _
    · rintro C i v s₃ m₃ E' hC ⟨hi, tk3, rfl⟩ hns hm hk3 htk
      have K3 : ∀ b o, H2.get? b = some o → s₃.heap.get? b = some o := fun b o e => hk3 b o (fun hb => Nat.lt_irrefl _ ((List.mem_singleton.mp hb) ▸ Heap.lt_size e)) (Heap.get?_push_of_some _ e)
      refine wpAny_tests_one (wpAny_isTrue_Compare1 ?_)
      refine wpAny_Name (wpAny_loadName_local rfl rfl hns hm ?_) (by decide)
      refine wpAny_Name (wpAny_loadName_cell rfl rfl rfl ⟨oS', K3 _ _ gS2, dS'⟩ ?_) (by decide)
      refine notin_list_ints ⟨_, K3 _ _ gD2, rfl, nD, rfl⟩ hiS ?_
      exact wpAny_truthy_bool ⟨rfl, ⟨_, _, rfl, fun _ _ e => e⟩⟩
    · rintro C i v s₃ m₃ E' hC ⟨hi, tk3, rfl⟩ hp hns hm hk3 htk
      have K3 : ∀ b o, H2.get? b = some o → s₃.heap.get? b = some o := fun b o e => hk3 b o (fun hb => Nat.lt_irrefl _ ((List.mem_singleton.mp hb) ▸ Heap.lt_size e)) (Heap.get?_push_of_some _ e)
      refine Subscript_ ?_
      refine wpAny_Name (wpAny_loadName_cell rfl rfl rfl ⟨oX, K3 _ _ gX2, dX⟩ ?_) (by decide)
      refine wpAny_Name (wpAny_loadName_local rfl rfl hns hm ?_) (by decide)
      refine item_str (fitsSsize_of (N := 1000) (by omega) (by omega) (by decide)) (by omega) (by omega) fun _ => ?_
      exact ⟨⟨_, _, _, rfl, rfl⟩, ⟨_, _, rfl, fun _ _ e => e⟩⟩
    · intro D2 h6 tk6 ys2 vs2 hD2 hIs2 hPl2 hlen2 hP2 hF2 hk6
      have K6 : ∀ b o, H2.get? b = some o → h6.get? b = some o := fun b o e => hk6 b o (fun hb => Nat.lt_irrefl _ ((List.mem_singleton.mp hb) ▸ Heap.lt_size e)) (Heap.get?_push_of_some _ e)
      have F7 := F6.keeps K6
      have N7 := News.grown N6 K6
      obtain ⟨l, e1, e2⟩ := strs_of (ints_filter (q := fun k => !(((rng x.length).filter (covB (prs.map (·.2)))).any (· == k))) (ints_rng hlen2 fun j v h => (hP2 j v h).2) fun k t => rfl) hF2
      have hl2 : h6.IsList D2 (strValues l).toArray := by rw [← e1]; simpa using hIs2
      clear hk6 K6 hF2 hP2 hPl2 hIs2 hD2 F6 N6 e1 gS2 gX2 gD2 hr hn9
      k_steps
      refine unmark ?_
      refine call_join hl2 (joinOk_short _ (by decide) _ ?_ ?_) ?_
      · rw [e2]
        intro y hy
        obtain ⟨k, -, rfl⟩ := List.mem_map.mp hy
        exact Nat.le_of_eq (len_item x k)
      · rw [e2, List.length_map]
        refine Nat.le_trans (List.length_filter_le _ _) ?_
        simp only [rng, List.length_map, List.length_range]
        omega
      · rw [e2]
        intro t9 k9
        k_steps
        refine unmark ?_
        dsimp only
        have hlS : h6.IsList D vsS.toArray := ⟨_, (N7 (D, listOf vsS.toArray nD) (.head _)).1, rfl, nD, rfl⟩
        have hlen9 : vsS.length ≤ 1000 := by
          have e9 := IntsAre.length hiS
          have e8 := List.length_filter_le (covB (prs.map (·.2))) (rng x.length)
          simp only [rng, List.length_map, List.length_range] at e8 e9
          omega
        refine krv_ints (s := { s with heap := h6, toks := _ }) F7 N7 hlS (IsPart.int _ _) hiS ?_ (by with_unfolding_all rfl) (by intro r; rfl) (by rw [sizeLine_eq]; simpa using (by omega : vsS.length ≤ 16777216))
        intro D9 ws9 h9 F9 N9 l9 i9 e9
        dsimp only
        clear e9 l9 F7 N7 hlS
        k_steps
        rename News h₀ _ _ _ => N10
        rename Fr h₀ _ _ _ => F10
        exact ret _ _ _ _ _ _ _ _ F10 (dueN N10) i9
end Mine
end
section
open PySem PySem.W PyProof.Rows
namespace Mine
theorem desc_eq : ∀ {a b : List Int}, a.Pairwise (· > ·) → b.Pairwise (· > ·) → (∀ k, k ∈ a ↔ k ∈ b) → a = b
  | [], [], _, _, _ => rfl
  | [], y :: b, _, _, h => absurd ((h y).mpr (by simp)) (by simp)
  | x :: a, [], _, _, h => absurd ((h x).mp (by simp)) (by simp)
  | x :: a, y :: b, ha, hb, h => by
    have ha' := List.pairwise_cons.mp ha
    have hb' := List.pairwise_cons.mp hb
    have hx : x ∈ y :: b := (h x).mp (by simp)
    have hy : y ∈ x :: a := (h y).mpr (by simp)
    have e : x = y := by
      rcases List.mem_cons.mp hx with e | hx
      · exact e
      rcases List.mem_cons.mp hy with e | hy
      · exact e.symm
      have h1 := ha'.1 y hy
      have h2 := hb'.1 x hx
      omega
    subst e
    congr 1
    refine desc_eq ha'.2 hb'.2 fun k => ⟨fun hk => ?_, fun hk => ?_⟩
    · rcases List.mem_cons.mp ((h k).mp (.tail _ hk)) with e | h'
      · have := ha'.1 k hk; omega
      · exact h'
    · rcases List.mem_cons.mp ((h k).mpr (.tail _ hk)) with e | h'
      · have := hb'.1 k hk; omega
      · exact h'
theorem rng_mem {n : Nat} {k : Int} : k ∈ rng n ↔ 0 ≤ k ∧ k < n := by
  simp only [rng, List.mem_map, List.mem_range]
  constructor
  · rintro ⟨j, hj, rfl⟩; omega
  · intro h; exact ⟨k.toNat, by omega, by omega⟩
theorem rng_asc (n : Nat) : (rng n).Pairwise (· < ·) := by
  unfold rng
  rw [List.pairwise_map]
  exact List.pairwise_lt_range.imp fun h => by omega
theorem cuts_eq {x : Str} {ps : List (Int × Int)} {cuts ends : List Int} {text : Str} {tot : Nat} (I : Inv x ps [] cuts ends text tot) : cuts = ((rng x.length).filter (covB ps)).reverse := by
  refine desc_eq I.d (by rw [List.pairwise_reverse]; exact (rng_asc _).filter _) fun k => ?_
  rw [List.mem_reverse, List.mem_filter, covB_iff, rng_mem]
  constructor
  · intro hk
    have := I.e k hk
    exact ⟨⟨this.1, this.2.1⟩, (I.c k).mpr (.inl hk)⟩
  · rintro ⟨-, hk⟩
    rcases (I.c k).mp hk with h | ⟨q, hq, _⟩
    · exact h
    · simp at hq
theorem keepI_range {l : List Nat} : ∀ {P : Nat → Bool} {i : Nat}, keepI P l i = ((List.range l.length).filter fun j => !P (i + j)).map fun j => l.getD j 0 := by
  induction l with
  | nil => intro P i; rfl
  | cons a r ih =>
    intro P i
    rw [keepI, List.length_cons, List.range_succ_eq_map, List.filter_cons, List.filter_map, ih]
    have e1 : ((List.range r.length).filter fun j => !P (i + 1 + j)) = (List.range r.length).filter ((fun j => !P (i + j)) ∘ Nat.succ) := by
      congr 1; funext j; simp only [Function.comp, Nat.succ_eq_add_one]; rw [show i + 1 + j = i + (j + 1) by omega]
    rw [e1]
    cases hP : P i
    · simp [hP, List.map_map, Function.comp_def]
    · simp [hP, List.map_map, Function.comp_def]
theorem join_cps : ∀ l : List Str, (Txt.join (Str.ofString "") l).cps.toList = l.flatMap (·.cps.toList)
  | [] => rfl
  | x :: r => by
    show ((r.foldl (fun acc p => acc ++ (Str.ofString "").cps ++ p.cps) x.cps)).toList = _
    have key : ∀ (r : List Str) (acc : Array Nat), ((r.foldl (fun acc p => acc ++ (Str.ofString "").cps ++ p.cps) acc)).toList = acc.toList ++ r.flatMap (·.cps.toList) := by
      intro r
      induction r with
      | nil => intro acc; simp
      | cons y r ih =>
        intro acc
        rw [List.foldl_cons, ih]
        have e0 : (Str.ofString "").cps = #[] := rfl
        simp [e0]
    rw [key, List.flatMap_cons]
theorem text_eq {x : Str} {ps : List (Int × Int)} {cuts ends : List Int} {text : Str} {tot : Nat} (I : Inv x ps [] cuts ends text tot) :
    text = Txt.join (Str.ofString "") (((rng x.length).filter fun k => !(((rng x.length).filter (covB ps)).any (· == k))).map (Txt.item x)) := by
  have e1 := cuts_list cuts x I.d fun k hk => ⟨(I.e k hk).1, (I.e k hk).2.1⟩
  rw [← I.t, keepI_range] at e1
  have e2 : text.cps.toList = (Txt.join (Str.ofString "") (((rng x.length).filter fun k => !(((rng x.length).filter (covB ps)).any (· == k))).map (Txt.item x))).cps.toList := by
    rw [e1, join_cps, List.flatMap_map]
    have hlen : x.cps.toList.length = x.length := by simp [Str.length]
    rw [hlen]
    simp only [rng, List.filter_map, List.flatMap_map]
    rw [List.map_eq_flatMap]
    have e3 : ((List.range x.length).filter fun j => !decide (((0 + j : Nat) : Int) ∈ cuts)) = (List.range x.length).filter ((fun k => !((((List.range x.length).filter (covB ps ∘ fun (j : Nat) => (j : Int))).map fun (j : Nat) => (j : Int)).any (· == k))) ∘ fun (j : Nat) => (j : Int)) := by
      refine List.filter_congr fun j hj => ?_
      simp only [Function.comp, Nat.zero_add]
      congr 1
      rw [cuts_eq I]
      simp only [rng, List.filter_map, List.mem_reverse, List.any_eq, beq_iff_eq, exists_eq_right]
    rw [e3]
    rw [List.flatMap_def, List.flatMap_def]
    congr 1
    refine List.map_congr_left fun j hj => ?_
    have hjl : j < x.length := List.mem_range.mp (List.mem_filter.mp hj).1
    rw [item_meets ⟨by omega, by omega⟩]
    simp [List.getD_eq_getElem?_getD, Array.getD_eq_getD_getElem?]
  cases text; rename_i a
  cases hJ : Txt.join (Str.ofString "") (((rng x.length).filter fun k => !(((rng x.length).filter (covB ps)).any (· == k))).map (Txt.item x)) with
  | mk b =>
    rw [hJ] at e2
    congr 1
    exact Array.toList_inj.mp e2
end Mine
end
section
open PySem PySem.W PyProof.Rows PySem.Calls
namespace Mine
set_option maxRecDepth 100000
set_option maxHeartbeats 1600000
abbrev signs (x : Str) (prs : List Item) : List Int := (rng x.length).filter (covB (prs.map (·.2)))
abbrev keptOf (x : Str) (prs : List Item) : Str := Txt.join (Str.ofString "") (((rng x.length).filter fun k => !((signs x prs).any (· == k))).map (Txt.item x))
theorem ne58 {h₀ h : Heap} {L b : Addr} {news : List (Addr × Obj)} {vs : Array Value} {n : Nat} (N : News h₀ L h news) (h58 : (58, tabObj #[]) ∈ news) (hm : (b, listOf vs n) ∈ news) : @Ne Nat b 58 := fun e => by
  have h1 : h.get? b = some (listOf vs n) := (N _ hm).1
  have h2 : h.get? 58 = some (tabObj #[]) := (N _ h58).1
  rw [e, h2] at h1
  exact absurd (congrArg Obj.cls (Option.some.inj h1)) (by intro h; cases h)
theorem freed_at {w : World} {mean : ExcName → Option Value} {mg mb : Str → Option Value}
  (dp un : Nat) (gd : Option (List Code)) (cn : Str) (cs : Scope) (a : Addr) (ccd : Value) (cl : List (Str × Addr)) (outer : List Env) (A₀ : Around) (base h₀ : Heap) (L : Addr) (m : Str → Option Value) (news : List (Addr × Obj)) (s : Shared)
  (x : Str) (t : Tok) (ls : Addr) (prs : List Item) (np : Nat) (Q E : Value → Shared → Prop)
  (B : Below A₀ base outer h₀) (F : Fr h₀ L s.heap m) (X : (hd.heap_39 w.params).In h₀) (N : News h₀ L s.heap news) (T : Top topProg LOOSE mean mg mb h₀) (hk : cs.kind = .function)
  (hx : x.length ≤ 100) (hC : CodeHd h₀ 62 58) (h58 : (58, tabObj #[]) ∈ news) (hls : (ls, listOf (vals prs) np) ∈ news) (hin : ItemsIn news prs) (hlp : prs.length ≤ 90) (hps : ∀ p ∈ prs.map (·.2), 0 ≤ p.1 ∧ p.1 ≤ p.2 ∧ p.2 ≤ (x.length : Int)) (htot : meas ((prs.map (·.2)).map fun p => (-p.2, p.1)) ≤ 60)
  (hd : dp + 5 < recursionLimit) (hu : un + 1000 < cLine)
  (ret : ∀ lr n1 lcx vsC nc ps tl tT h' tk', Fr h₀ L h' m → News h₀ L h' ((lr, listOf #[.str (keptOf x prs) tT, .ref lcx] n1) :: (lcx, listOf (List.toArray vsC) nc) :: (58, tabObj ps) :: tl) → (ls, listOf (vals prs) np) ∈ tl → ItemsIn tl prs → IntsAre vsC (signs x prs).reverse →
    Q (.ref lr) { s with heap := h', toks := tk' }) :
  wpAny (model PR w) (ktrTop dp un gd cn cs L a ccd cl outer) (call (.ref 70) [.str x t, .ref ls]) Q E s := by
  have hf : ∀ {p : Addr × Obj}, p ∈ news → @Ne Nat p.1 58 → p ∈ news.filter (fun p => !(Nat.beq p.1 58)) := fun hp hne => List.mem_filter.mpr ⟨hp, by
    cases e : Nat.beq _ 58
    · rfl
    · exact absurd (Nat.eq_of_beq_eq_true e) hne⟩
  refine freed_c dp un gd cn cs a ccd cl outer A₀ base h₀ L m (news.filter fun p => !(Nat.beq p.1 58)) s x t ls prs np Q E B F X (News.sub N ?_) T hk hx hC ?_ ?_ ?_ hlp hps htot hd hu ?_
  · intro p hp
    rcases List.mem_cons.mp hp with rfl | hp
    · exact h58
    · exact (List.mem_filter.mp hp).1
  · intro p hp e
    have := (List.mem_filter.mp hp).2
    rw [e] at this
    exact absurd this (by decide)
  · exact hf hls (ne58 N h58 hls)
  · intro i hi
    obtain ⟨a1, a2, a3, a4⟩ := hin i hi
    exact ⟨a1, a2, a3, hf a4 (ne58 N h58 a4)⟩
  · intro lr n1 lcx vsC cuts nc ps tl text tT ends h' tk' F' N' hsub hi hI
    rw [text_eq hI] at N'
    rw [cuts_eq hI] at hi
    refine ret lr n1 lcx vsC nc ps tl tT h' tk' F' N' (hsub _ (hf hls (ne58 N h58 hls))) (fun i hi => ?_) hi
    obtain ⟨a1, a2, a3, a4⟩ := hin i hi
    exact ⟨a1, a2, a3, hsub _ (hf a4 (ne58 N h58 a4))⟩
theorem reads_pair {h₀ h : Heap} {L r c : Addr} {news : List (Addr × Obj)} {text : Str} {tT : Tok} {n nc : Nat} {vs : List Value} {ks : List Int} (N : News h₀ L h news) (h1 : (r, listOf #[.str text tT, .ref c] n) ∈ news) (h2 : (c, listOf vs.toArray nc) ∈ news) (hi : IntsAre vs ks) :
    ∃ as, Reads h (.ref r) (.list [.str text, .list (ks.map .int)]) as := by
  obtain ⟨as, ha⟩ : ∃ as, ReadsAll h vs (ks.map .int) as := by
    clear h1 h2
    induction hi with
    | nil => exact ⟨_, .nil⟩
    | cons k t _ ih => obtain ⟨as, ih⟩ := ih; exact ⟨_, .cons (.int _ _) ih⟩
  exact ⟨_, Reads.list (N _ h1).1 rfl rfl (.cons (.str _ _) (.cons (Reads.list (N _ h2).1 rfl rfl (by simpa using ha)) .nil))⟩
theorem lay_ints : ∀ ks : List Int, PyData.canLayAll0 (ks.map .int) = true ∧ PyData.depthAll (ks.map .int) ≤ 1
  | [] => ⟨by simp [PyData.canLayAll0], by simp [PyData.depthAll]⟩
  | k :: r => by
    have h := lay_ints r
    simp only [List.map_cons, PyData.canLayAll0, PyData.depthAll, PyData.canLay0, PyData.depth, Bool.true_and]
    exact ⟨h.1, by omega⟩
theorem shaped_pair {text : Str} (ht : ∀ c ∈ text.cps.toList, c < 1114112) (ks : List Int) : PySem.SeqAt.shaped (.list [.str text, .list (ks.map .int)]) = true := by
  have h := lay_ints ks
  have e : PyData.canLay0 (.str text) = true := by
    simp only [PyData.canLay0]
    show text.cps.all _ = true
    rw [← Array.all_toList, List.all_eq_true]
    exact fun c hc => decide_eq_true (ht c hc)
  show (PyData.canLay0 (.list [.str text, .list (ks.map .int)]) && decide (PyData.depth (.list [.str text, .list (ks.map .int)]) ≤ 64)) = true
  rw [Bool.and_eq_true]
  constructor
  · simp only [PyData.canLay0] at e
    simp only [PyData.canLay0, PyData.canLayAll0, h.1, Bool.and_true]
    exact e
  · refine decide_eq_true ?_
    simp only [PyData.depth, PyData.depthAll]
    omega
theorem kept_ok {x : Str} (prs : List Item) (hx : ∀ c ∈ x.cps.toList, c < 1114112) : ∀ c ∈ (keptOf x prs).cps.toList, c < 1114112 := by
  intro c hc
  rw [join_cps, List.mem_flatMap] at hc
  obtain ⟨y, hy, hc⟩ := hc
  obtain ⟨k, hk, rfl⟩ := List.mem_map.mp hy
  have hr := rng_mem.mp (List.mem_filter.mp hk).1
  rw [item_meets ⟨hr.1, hr.2⟩] at hc
  have e : c = x.cps.getD k.toNat 0 := by simpa using hc
  have hl : k.toNat < x.cps.size := by have := hr.2; unfold Str.length at this; omega
  rw [e, Array.getD_eq_getD_getElem?, Array.getElem?_eq_getElem hl, Option.getD_some]
  exact hx _ (by simp)
theorem law_eq {prog : Program} {w : World} {A : Around} {E : Value → Shared → Prop} {s : Shared} {h₀ : Heap} {L r1 c1 r2 c2 : Addr} {news : List (Addr × Obj)} {text : Str} {t1 t2 : Tok} {n1 m1 n2 m2 : Nat} {vs1 vs2 : List Value} {ks : List Int} {Q : Value → Shared → Prop}
    (ht : ∀ c ∈ text.cps.toList, c < 1114112) (N : News h₀ L s.heap news) (a1 : (r1, listOf #[.str text t1, .ref c1] n1) ∈ news) (b1 : (c1, listOf vs1.toArray m1) ∈ news) (i1 : IntsAre vs1 ks)
    (a2 : (r2, listOf #[.str text t2, .ref c2] n2) ∈ news) (b2 : (c2, listOf vs2.toArray m2) ∈ news) (i2 : IntsAre vs2 ks) (hu : A.units + 64 < cLine) (h : Q (.bool true) s) :
    wpAny (model prog w) A (compareOp .Eq (.ref r1) (.ref r2)) Q E s := by
  obtain ⟨as, ra⟩ := reads_pair N a1 b1 i1
  obtain ⟨bs, rb⟩ := reads_pair N a2 b2 i2
  have hs := shaped_pair ht ks
  refine eq_dataH ra rb hs hs hu ?_
  rw [PySem.SeqAt.eqv_refl _ (PySem.SeqAt.canLay_of_shaped hs)]
  exact h
end Mine
end
section
open PySem PySem.W PyProof.Rows
namespace Mine
set_option maxRecDepth 100000
set_option maxHeartbeats 4000000
set_option pp.maxSteps 100000
theorem lst_isl {h : Heap} {D : Addr} {ys : List Value} (e : h.get? D = some (LCg.lst ys)) : h.IsList D ys.toArray := ⟨_, e, rfl, _, rfl⟩
theorem sorted_mods {prog : Program} {w : World} {A : Around} {E Q : Value → Shared → Prop} {s : Shared} {h₀ : Heap} {L l : Addr} {m : Str → Option Value} {news : List (Addr × Obj)} {x : Int} {k n : Nat} {ta tb : Tok}
    (F : Fr h₀ L s.heap m) (N : News h₀ L s.heap ((l, listOf #[.int (x.fmod ((k : Int) + 1)) ta, .int ((x.fdiv ((k : Int) + 1)).fmod ((k : Int) + 1)) tb] n) :: news))
    (h : ∀ D p q tp tq c h', 0 ≤ p → p ≤ q → q ≤ (k : Int) → Fr h₀ L h' m → News h₀ L h' ((D, listOf #[.int p tp, .int q tq] c) :: news) → (∀ p ∈ news, p.1 < D) → Q (.ref D) { s with heap := h' }) :
    wpAny (model prog w) A (call (.builtin "sorted") [.ref l]) Q E s := by
  have hk : (0 : Int) < (k : Int) + 1 := by omega
  have a1 := Int.fmod_nonneg_of_pos x hk
  have a2 := Int.fmod_lt_of_pos x hk
  have b1 := Int.fmod_nonneg_of_pos (x.fdiv ((k : Int) + 1)) hk
  have b2 := Int.fmod_lt_of_pos (x.fdiv ((k : Int) + 1)) hk
  generalize x.fmod ((k : Int) + 1) = a at *
  generalize (x.fdiv ((k : Int) + 1)).fmod ((k : Int) + 1) = b at *
  have hl : s.heap.IsList l [Value.int a ta, Value.int b tb].toArray := ⟨_, (N _ (.head _)).1, rfl, n, rfl⟩
  refine kso_sorted F N hl (.cons a ta (.cons b tb .nil)) (Nat.le_of_ble_eq_true rfl) ?_
  intro D vs' ns' c h' F' N' l1 i' e' p' o' _
  cases i' with
  | nil => simp at e'
  | @cons p tp vs1 ns1 i1 =>
  cases i1 with
  | nil => simp at e'
  | @cons q tq vs2 ns2 i2 =>
  cases i2 with
  | @cons r tr vs3 ns3 i3 => simp at e'
  | nil =>
  have hp : p = a ∨ p = b := by simpa using p'.mem_iff.mp (show p ∈ [p, q] by simp)
  have hq : q = a ∨ q = b := by simpa using p'.mem_iff.mp (show q ∈ [p, q] by simp)
  have hpq : p ≤ q := by simpa using o'
  refine h D p q tp tq c h' (by omega) hpq (by omega) F' (fun z hz => ?_) fun z hz => l1 z (.tail _ hz)
  rcases List.mem_cons.mp hz with rfl | hz
  · exact N' _ (.head _)
  · exact N' _ (.tail _ (.tail _ hz))
theorem sorted_end {prog : Program} {w : World} {A : Around} {E : Value → Shared → Prop} {s₁ : Shared} {hh : Heap} {tt : Nat} {h₀ : Heap} {L l I C D : Addr} {oI oC oD : Obj} {m : Str → Option Value} {news : List (Addr × Obj)} {x : Int} {k n : Nat} {ta tb : Tok}
    {S : List (Addr × Obj) → Prop} {rest : Value → List (Addr × Obj) → Prop}
    (F : Fr h₀ L hh m) (N : News h₀ L hh ((l, listOf #[.int (x.fmod ((k : Int) + 1)) ta, .int ((x.fdiv ((k : Int) + 1)).fmod ((k : Int) + 1)) tb] n) :: (I, oI) :: (C, oC) :: (D, oD) :: news))
    (off : LCg.Off3 I C D news) (hS : ∀ p, S (p :: news))
    (h : ∀ T p q tp tq c, 0 ≤ p → p ≤ q → q ≤ (k : Int) → (∀ p ∈ news, p.1 < T) → rest (.ref T) ((T, listOf #[.int p tp, .int q tq] c) :: news)) :
    wpAny (model prog w) A (call (.builtin "sorted") [.ref l]) (LCg.CompEnd h₀ L m s₁ I oI C oC D oD S rest) E { s₁ with heap := hh, toks := tt } := by
  refine sorted_mods (s := { s₁ with heap := hh, toks := tt }) F N fun T p q tp tq c h' b1 b2 b3 F' N' l1 => ?_
  refine LCg.CompEnd.intro F' N' ((T, listOf #[.int p tp, .int q tq] c) :: news) ?_ ⟨⟨?_, ?_, ?_⟩, off⟩ (hS _) (h T p q tp tq c b1 b2 b3 fun z hz => l1 z (.tail _ (.tail _ (.tail _ hz))))
  · intro z hz
    simp only [List.mem_cons] at hz ⊢
    rcases hz with h | h | h | h | h <;> simp [h]
  · exact Nat.ne_of_gt (l1 (I, oI) (.head _))
  · exact Nat.ne_of_gt (l1 (C, oC) (.tail _ (.head _)))
  · exact Nat.ne_of_gt (l1 (D, oD) (.tail _ (.tail _ (.head _))))
inductive Flag : Prop | here
local macro_rules | `(tactic| walk_at "eval ListComp") => `(tactic| ((rename Flag => hflag); refine mark ?_))
local macro_rules | `(tactic| walk_at "call ref") => `(tactic| (refine mark ?_))
local macro_rules | `(tactic| walk_at "CompSrc") => `(tactic| (refine mark ?_))
local macro_rules | `(tactic| walk_at "call builtin:str.join") => `(tactic| (refine mark ?_))
local macro_rules | `(tactic| walk_at "eval ListComp") => `(tactic| (refine LCg.ListComp_U (F₀ := by k_asm) (by with_unfolding_all rfl) (by decide) (by rfl) (by decide) (by rfl) ?_))
local macro_rules | `(tactic| walk_at "eval ListComp") => `(tactic| ((rename Flag => hflag); refine mark ?_))
local macro_rules | `(tactic| walk_at "call builtin:len") => `(tactic| ((rename Flag => hflag); refine mark ?_))
local macro_rules | `(tactic| walk_at "CompRest") => `(tactic| ((rename Flag => hflag); (with_unfolding_all first | (refine LCg.CompRest.succ ?_; intro v' I' oI' C' oC' D' m' h' tk' E' hv' hC' hx' F' N' off' ne'; (first | lcg_open hv' | (obtain ⟨t9', hv9'⟩ := hv'; subst hv9'))) | refine LCg.CompRest.zero ?_)))
local macro_rules | `(tactic| walk_at "call builtin:sorted") => `(tactic| ((rename Fr _ _ _ _ => F2); (rename News _ _ _ _ => N2); (rename LCg.Off3 _ _ _ _ => off2); k_dflt (refine sorted_end F2 N2 off2 (fun p9 => Or.inr ⟨_, by k_mem, rfl, _, rfl⟩) ?_); intro D' p' q' tp' tq' c' b1' b2' b3' l1; clear off2 F2 N2; (try k_lt l1)))
theorem t1 : PySem.Challenge.rw_nb0076_01.Holds := hd (by
  k_go0
  all_goals try k_fold
  have hflag := Flag.here
  k_steps
  refine unmark ?_
  rename Flag => hflag
  clear hflag
  rename IntsAre _ (List.take _ _) => hI9
  rename List Int => xs
  rcases xs with _ | ⟨x1, _ | ⟨x2, _ | ⟨x3, xs⟩⟩⟩
  · cases hI9 with | nil =>
    k_steps
    refine unmark ?_
    refine LCg.CompSrc.ledger (by rfl) (by k_asm) (by k_asm) (by k_mem) (by first | size_fits | exact Nat.le_of_ble_eq_true rfl) ?_
    intro g'
    lcg_lit
    k_steps
    refine unmark ?_
    rename News _ _ _ _ => N1
    have hl2 := (N1 _ (.head _)).1
    refine call_join (l := []) (lst_isl hl2) (joinOk_short _ ?_ _ ?_ ?_) ?_
    · rfl
    · intro y hy
      simp only [List.map_cons, List.map_nil, List.mem_cons, List.not_mem_nil, or_false] at hy
    · exact Nat.le_of_ble_eq_true rfl
    · intro t9 k9
      have hflag := Flag.here
      k_steps
      refine unmark ?_
      rename Flag => hflag
      clear hflag
      have hXl : (Str.ofString "abcdefgh").length = 8 := rfl
      have hXo : ∀ c ∈ (Str.ofString "abcdefgh").cps.toList, c < 1114112 := by
        intro c hc
        have hc' : c ∈ [97, 98, 99, 100, 101, 102, 103, 104] := hc
        simp only [List.mem_cons, List.not_mem_nil, or_false] at hc'
        omega
      k_steps
      refine unmark ?_
      refine LCg.CompSrc.ledger (by rfl) (by k_asm) (by k_asm) (by k_mem) (by first | size_fits | exact Nat.le_of_ble_eq_true rfl) ?_
      intro g'
      lcg_lit
      have hflag := Flag.here
      k_steps
      refine unmark ?_
      rename Fr _ _ _ _ => F5
      rename News _ _ _ _ => N5
      rename Below _ _ _ _ => B5
      rename Frag.In _ _ => X5
      rename Top topProg _ _ _ _ _ => T5
      refine freed_at _ _ _ _ _ _ _ _ _ _ _ _ _ _ _ _ (Str.ofString "abcdefgh") _ _ [(_, 1, 3), (_, 2, 5), (_, 4, 5), (_, 6, 6), (_, 7, 8)] 0 _ _ B5 F5 X5 N5 T5 rfl (Nat.le_of_ble_eq_true rfl) codeHd (by kcf_m) (.head _) (by (repeat (refine List.forall_mem_cons.mpr ⟨⟨_, _, _, by kcf_m⟩, ?_⟩)); exact List.forall_mem_nil _) (Nat.le_of_ble_eq_true rfl) ?_ ?_ (Nat.le_of_ble_eq_true rfl) (Nat.le_of_ble_eq_true rfl) ?_
      · simp only [List.map_cons, List.map_nil, List.forall_mem_cons, List.not_mem_nil, false_imp_iff, implies_true, and_true]
        omega
      · simp only [meas, List.map_cons, List.map_nil, List.sum_cons, List.sum_nil]
        omega
      intro lr n1 lcx vsC nc ps tl tT h' tk' F6 N6 hls6 hin6 hi6
      clear F5 N5
      dsimp only
      k_steps
      refine unmark ?_
      rename Fr _ _ _ _ => F7
      rename News _ _ _ _ => N7
      refine due_c _ _ _ _ _ _ _ _ _ _ _ _ _ _ _ _ (Str.ofString "abcdefgh") _ _ [(_, 1, 3), (_, 2, 5), (_, 4, 5), (_, 6, 6), (_, 7, 8)] 0 _ _ B5 F7 X5 N7 T5 rfl (Nat.le_of_ble_eq_true rfl) (.tail _ (.tail _ (.tail _ hls6))) (fun i hi => let ⟨a1, a2, a3, a4⟩ := hin6 i hi; ⟨a1, a2, a3, .tail _ (.tail _ (.tail _ a4))⟩) (Nat.le_of_ble_eq_true rfl) (Nat.le_of_ble_eq_true rfl) (Nat.le_of_ble_eq_true rfl) ?_
      intro lr2 n2 lcx2 ws nc2 ty h2 tk2 F8 N8 hi8
      clear F7 N7
      dsimp only
      refine law_eq (kept_ok _ hXo) N8 (.tail _ (.tail _ (.head _))) (.tail _ (.tail _ (.tail _ (.head _)))) hi6 (.head _) (.tail _ (.head _)) hi8 (Nat.le_of_ble_eq_true rfl) ?_
      k_steps
  · cases hI9 with | @cons _ t1 _ _ hI9 =>
    cases hI9 with | nil =>
    k_steps
    refine unmark ?_
    refine LCg.CompSrc.ledger (by rfl) (by k_asm) (by k_asm) (by k_mem) (by first | size_fits | exact Nat.le_of_ble_eq_true rfl) ?_
    intro g'
    lcg_lit
    k_steps
    refine unmark ?_
    rename News _ _ _ _ => N1
    have hl2 := (N1 _ (.head _)).1
    refine call_join (l := [(_, _)]) (lst_isl hl2) (joinOk_short _ ?_ _ ?_ ?_) ?_
    · rfl
    · intro y hy
      simp only [List.map_cons, List.map_nil, List.mem_cons, List.not_mem_nil, or_false] at hy
      subst hy; exact Nat.le_refl 1
    · exact Nat.le_of_ble_eq_true rfl
    · intro t9 k9
      have hflag := Flag.here
      k_steps
      refine unmark ?_
      rename Flag => hflag
      clear hflag
      rename Fr _ _ _ _ => F1
      generalize hX : (Str.ofString "abcdefgh" ++ Txt.join _ _) = X at F1 ⊢
      have hXl : X.length = 9 := by rw [← hX]; rfl
      have hXo : ∀ c ∈ X.cps.toList, c < 1114112 := by
        have e1 := Int.fmod_lt_of_pos x1 (show (0 : Int) < 55296 by decide)
        rw [← hX]
        intro c hc
        have hc' : c ∈ [97, 98, 99, 100, 101, 102, 103, 104, (x1.fmod 55296).toNat] := hc
        simp only [List.mem_cons, List.not_mem_nil, or_false] at hc'
        omega
      clear hX
      k_steps
      refine unmark ?_
      refine LCg.CompSrc.ledger (by rfl) (by k_asm) (by k_asm) (by k_mem) (by first | size_fits | exact Nat.le_of_ble_eq_true rfl) ?_
      intro g'
      lcg_lit
      have hflag := Flag.here
      k_steps
      refine unmark ?_
      rename Fr _ _ _ _ => F5
      rename News _ _ _ _ => N5
      rename Below _ _ _ _ => B5
      rename Frag.In _ _ => X5
      rename Top topProg _ _ _ _ _ => T5
      refine freed_at _ _ _ _ _ _ _ _ _ _ _ _ _ _ _ _ X _ _ [(_, 1, 3), (_, 2, 5), (_, 4, 5), (_, 6, 6), (_, 7, 8), (_, _, _)] 0 _ _ B5 F5 X5 N5 T5 rfl (by omega) codeHd (by kcf_m) (.head _) (by (repeat (refine List.forall_mem_cons.mpr ⟨⟨_, _, _, by kcf_m⟩, ?_⟩)); exact List.forall_mem_nil _) (Nat.le_of_ble_eq_true rfl) ?_ ?_ (Nat.le_of_ble_eq_true rfl) (Nat.le_of_ble_eq_true rfl) ?_
      · simp only [List.map_cons, List.map_nil, List.forall_mem_cons, List.not_mem_nil, false_imp_iff, implies_true, and_true]
        omega
      · simp only [meas, List.map_cons, List.map_nil, List.sum_cons, List.sum_nil]
        omega
      intro lr n1 lcx vsC nc ps tl tT h' tk' F6 N6 hls6 hin6 hi6
      clear F5 N5
      dsimp only
      k_steps
      refine unmark ?_
      rename Fr _ _ _ _ => F7
      rename News _ _ _ _ => N7
      refine due_c _ _ _ _ _ _ _ _ _ _ _ _ _ _ _ _ X _ _ [(_, 1, 3), (_, 2, 5), (_, 4, 5), (_, 6, 6), (_, 7, 8), (_, _, _)] 0 _ _ B5 F7 X5 N7 T5 rfl (by omega) (.tail _ (.tail _ (.tail _ hls6))) (fun i hi => let ⟨a1, a2, a3, a4⟩ := hin6 i hi; ⟨a1, a2, a3, .tail _ (.tail _ (.tail _ a4))⟩) (Nat.le_of_ble_eq_true rfl) (Nat.le_of_ble_eq_true rfl) (Nat.le_of_ble_eq_true rfl) ?_
      intro lr2 n2 lcx2 ws nc2 ty h2 tk2 F8 N8 hi8
      clear F7 N7
      dsimp only
      refine law_eq (kept_ok _ hXo) N8 (.tail _ (.tail _ (.head _))) (.tail _ (.tail _ (.tail _ (.head _)))) hi6 (.head _) (.tail _ (.head _)) hi8 (Nat.le_of_ble_eq_true rfl) ?_
      k_steps
  · cases hI9 with | @cons _ t1 _ _ hI9 =>
    cases hI9 with | @cons _ t2 _ _ hI9 =>
    cases hI9 with | nil =>
    k_steps
    refine unmark ?_
    refine LCg.CompSrc.ledger (by rfl) (by k_asm) (by k_asm) (by k_mem) (by first | size_fits | exact Nat.le_of_ble_eq_true rfl) ?_
    intro g'
    lcg_lit
    k_steps
    refine unmark ?_
    rename News _ _ _ _ => N1
    have hl2 := (N1 _ (.head _)).1
    refine call_join (l := [(_, _), (_, _)]) (lst_isl hl2) (joinOk_short _ ?_ _ ?_ ?_) ?_
    · rfl
    · intro y hy
      simp only [List.map_cons, List.map_nil, List.mem_cons, List.not_mem_nil, or_false] at hy
      rcases hy with rfl | rfl <;> exact Nat.le_refl 1
    · exact Nat.le_of_ble_eq_true rfl
    · intro t9 k9
      have hflag := Flag.here
      k_steps
      refine unmark ?_
      rename Flag => hflag
      clear hflag
      rename Fr _ _ _ _ => F1
      generalize hX : (Str.ofString "abcdefgh" ++ Txt.join _ _) = X at F1 ⊢
      have hXl : X.length = 10 := by rw [← hX]; rfl
      have hXo : ∀ c ∈ X.cps.toList, c < 1114112 := by
        have e1 := Int.fmod_lt_of_pos x1 (show (0 : Int) < 55296 by decide)
        have e2 := Int.fmod_lt_of_pos x2 (show (0 : Int) < 55296 by decide)
        rw [← hX]
        intro c hc
        have hc' : c ∈ [97, 98, 99, 100, 101, 102, 103, 104, (x1.fmod 55296).toNat, (x2.fmod 55296).toNat] := hc
        simp only [List.mem_cons, List.not_mem_nil, or_false] at hc'
        omega
      clear hX
      k_steps
      refine unmark ?_
      refine LCg.CompSrc.ledger (by rfl) (by k_asm) (by k_asm) (by k_mem) (by first | size_fits | exact Nat.le_of_ble_eq_true rfl) ?_
      intro g'
      lcg_lit
      have hflag := Flag.here
      k_steps
      refine unmark ?_
      rename Fr _ _ _ _ => F5
      rename News _ _ _ _ => N5
      rename Below _ _ _ _ => B5
      rename Frag.In _ _ => X5
      rename Top topProg _ _ _ _ _ => T5
      refine freed_at _ _ _ _ _ _ _ _ _ _ _ _ _ _ _ _ X _ _ [(_, 1, 3), (_, 2, 5), (_, 4, 5), (_, 6, 6), (_, 7, 8), (_, _, _), (_, _, _)] 0 _ _ B5 F5 X5 N5 T5 rfl (by omega) codeHd (by kcf_m) (.head _) (by (repeat (refine List.forall_mem_cons.mpr ⟨⟨_, _, _, by kcf_m⟩, ?_⟩)); exact List.forall_mem_nil _) (Nat.le_of_ble_eq_true rfl) ?_ ?_ (Nat.le_of_ble_eq_true rfl) (Nat.le_of_ble_eq_true rfl) ?_
      · simp only [List.map_cons, List.map_nil, List.forall_mem_cons, List.not_mem_nil, false_imp_iff, implies_true, and_true]
        omega
      · simp only [meas, List.map_cons, List.map_nil, List.sum_cons, List.sum_nil]
        omega
      intro lr n1 lcx vsC nc ps tl tT h' tk' F6 N6 hls6 hin6 hi6
      clear F5 N5
      dsimp only
      k_steps
      refine unmark ?_
      rename Fr _ _ _ _ => F7
      rename News _ _ _ _ => N7
      refine due_c _ _ _ _ _ _ _ _ _ _ _ _ _ _ _ _ X _ _ [(_, 1, 3), (_, 2, 5), (_, 4, 5), (_, 6, 6), (_, 7, 8), (_, _, _), (_, _, _)] 0 _ _ B5 F7 X5 N7 T5 rfl (by omega) (.tail _ (.tail _ (.tail _ hls6))) (fun i hi => let ⟨a1, a2, a3, a4⟩ := hin6 i hi; ⟨a1, a2, a3, .tail _ (.tail _ (.tail _ a4))⟩) (Nat.le_of_ble_eq_true rfl) (Nat.le_of_ble_eq_true rfl) (Nat.le_of_ble_eq_true rfl) ?_
      intro lr2 n2 lcx2 ws nc2 ty h2 tk2 F8 N8 hi8
      clear F7 N7
      dsimp only
      refine law_eq (kept_ok _ hXo) N8 (.tail _ (.tail _ (.head _))) (.tail _ (.tail _ (.tail _ (.head _)))) hi6 (.head _) (.tail _ (.head _)) hi8 (Nat.le_of_ble_eq_true rfl) ?_
      k_steps
  · cases hI9 with | @cons _ t1 _ _ hI9 =>
    cases hI9 with | @cons _ t2 _ _ hI9 =>
    cases hI9 with | @cons _ t3 _ _ hI9 =>
    cases hI9 with | nil =>
    k_steps
    refine unmark ?_
    refine LCg.CompSrc.ledger (by rfl) (by k_asm) (by k_asm) (by k_mem) (by first | size_fits | exact Nat.le_of_ble_eq_true rfl) ?_
    intro g'
    lcg_lit
    k_steps
    refine unmark ?_
    rename News _ _ _ _ => N1
    have hl2 := (N1 _ (.head _)).1
    refine call_join (l := [(_, _), (_, _), (_, _)]) (lst_isl hl2) (joinOk_short _ ?_ _ ?_ ?_) ?_
    · rfl
    · intro y hy
      simp only [List.map_cons, List.map_nil, List.mem_cons, List.not_mem_nil, or_false] at hy
      rcases hy with rfl | rfl | rfl <;> exact Nat.le_refl 1
    · exact Nat.le_of_ble_eq_true rfl
    · intro t9 k9
      have hflag := Flag.here
      k_steps
      refine unmark ?_
      rename Flag => hflag
      clear hflag
      rename Fr _ _ _ _ => F1
      generalize hX : (Str.ofString "abcdefgh" ++ Txt.join _ _) = X at F1 ⊢
      have hXl : X.length = 11 := by rw [← hX]; rfl
      have hXo : ∀ c ∈ X.cps.toList, c < 1114112 := by
        have e1 := Int.fmod_lt_of_pos x1 (show (0 : Int) < 55296 by decide)
        have e2 := Int.fmod_lt_of_pos x2 (show (0 : Int) < 55296 by decide)
        have e3 := Int.fmod_lt_of_pos x3 (show (0 : Int) < 55296 by decide)
        rw [← hX]
        intro c hc
        have hc' : c ∈ [97, 98, 99, 100, 101, 102, 103, 104, (x1.fmod 55296).toNat, (x2.fmod 55296).toNat, (x3.fmod 55296).toNat] := hc
        simp only [List.mem_cons, List.not_mem_nil, or_false] at hc'
        omega
      clear hX
      k_steps
      refine unmark ?_
      refine LCg.CompSrc.ledger (by rfl) (by k_asm) (by k_asm) (by k_mem) (by first | size_fits | exact Nat.le_of_ble_eq_true rfl) ?_
      intro g'
      lcg_lit
      have hflag := Flag.here
      k_steps
      refine unmark ?_
      rename Fr _ _ _ _ => F5
      rename News _ _ _ _ => N5
      rename Below _ _ _ _ => B5
      rename Frag.In _ _ => X5
      rename Top topProg _ _ _ _ _ => T5
      refine freed_at _ _ _ _ _ _ _ _ _ _ _ _ _ _ _ _ X _ _ [(_, 1, 3), (_, 2, 5), (_, 4, 5), (_, 6, 6), (_, 7, 8), (_, _, _), (_, _, _), (_, _, _)] 0 _ _ B5 F5 X5 N5 T5 rfl (by omega) codeHd (by kcf_m) (.head _) (by (repeat (refine List.forall_mem_cons.mpr ⟨⟨_, _, _, by kcf_m⟩, ?_⟩)); exact List.forall_mem_nil _) (Nat.le_of_ble_eq_true rfl) ?_ ?_ (Nat.le_of_ble_eq_true rfl) (Nat.le_of_ble_eq_true rfl) ?_
      · simp only [List.map_cons, List.map_nil, List.forall_mem_cons, List.not_mem_nil, false_imp_iff, implies_true, and_true]
        omega
      · simp only [meas, List.map_cons, List.map_nil, List.sum_cons, List.sum_nil]
        omega
      intro lr n1 lcx vsC nc ps tl tT h' tk' F6 N6 hls6 hin6 hi6
      clear F5 N5
      dsimp only
      k_steps
      refine unmark ?_
      rename Fr _ _ _ _ => F7
      rename News _ _ _ _ => N7
      refine due_c _ _ _ _ _ _ _ _ _ _ _ _ _ _ _ _ X _ _ [(_, 1, 3), (_, 2, 5), (_, 4, 5), (_, 6, 6), (_, 7, 8), (_, _, _), (_, _, _), (_, _, _)] 0 _ _ B5 F7 X5 N7 T5 rfl (by omega) (.tail _ (.tail _ (.tail _ hls6))) (fun i hi => let ⟨a1, a2, a3, a4⟩ := hin6 i hi; ⟨a1, a2, a3, .tail _ (.tail _ (.tail _ a4))⟩) (Nat.le_of_ble_eq_true rfl) (Nat.le_of_ble_eq_true rfl) (Nat.le_of_ble_eq_true rfl) ?_
      intro lr2 n2 lcx2 ws nc2 ty h2 tk2 F8 N8 hi8
      clear F7 N7
      dsimp only
      refine law_eq (kept_ok _ hXo) N8 (.tail _ (.tail _ (.head _))) (.tail _ (.tail _ (.tail _ (.head _)))) hi6 (.head _) (.tail _ (.head _)) hi8 (Nat.le_of_ble_eq_true rfl) ?_
      k_steps)
end Mine
end
theorem PySem.Challenge.cw_nb0076_01_holds : PySem.Challenge.rw_nb0076_01.Holds :=
  Mine.t1
