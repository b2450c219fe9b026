import PyProof.Rows.All
import Wide.All
import OpenK.AllK
import Wide.FinOn
import Lean
import PySem.Challenge.RW_pm0017_01
open PySem PySem.W PyProof.Rows
set_option Elab.async false
set_option maxRecDepth 100000
set_option maxHeartbeats 8000000
set_option linter.unusedVariables false
namespace Mine
open_top hd for PySem.Challenge.rw_pm0017_01
end Mine
section
open PySem PySem.Calls PySem.W PyProof.Rows
set_option Elab.async false
set_option maxRecDepth 100000
set_option maxHeartbeats 4000000
namespace Mine

abbrev tup2 (x y : Int) (t1 t2 : Tok) (n : Nat) : Obj := { cls := .type "tuple", data := .seq #[.int x t1, .int y t2] n }

/-- the value v is a tuple of the two ints, and the ledger bears it -/
def PairIn (tl : List (Addr × Obj)) (v : Value) (x y : Int) : Prop := ∃ a t1 t2 n, v = .ref a ∧ (a, tup2 x y t1 t2 n) ∈ tl
def IsP (tl : List (Addr × Obj)) (key : Value → Int × Int) (v : Value) : Prop := PairIn tl v (key v).1 (key v).2
def ltP (p q : Int × Int) : Bool := decide (p.1 < q.1) || (decide (p.1 = q.1) && decide (p.2 < q.2))

theorem PairIn.mono {tl tl' : List (Addr × Obj)} {v : Value} {x y : Int} (h : PairIn tl v x y) (hs : ∀ p ∈ tl, p ∈ tl') : PairIn tl' v x y :=
  let ⟨a, t1, t2, n, e, hm⟩ := h; ⟨a, t1, t2, n, e, hs _ hm⟩

theorem with_addr {h₀ h : Heap} {L a : Addr} {o : Obj} {news : List (Addr × Obj)} {P : Prop} (_ : News h₀ L h ((a, o) :: news)) (k : ∀ D, D = a → P) : P := k a rfl
theorem with_L {h₀ h : Heap} {L : Addr} {news : List (Addr × Obj)} {P : Prop} (_ : News h₀ L h news) (k : ∀ x, x = L → P) : P := k L rfl
theorem with_obj2 {h₀ h : Heap} {L a b : Addr} {o o' : Obj} {news : List (Addr × Obj)} {P : Prop} (_ : News h₀ L h ((a, o) :: (b, o') :: news)) (k : ∀ x, x = o' → P) : P := k o' rfl
def Stop (P : Prop) : Prop := P
theorem Stop.i {P : Prop} (h : Stop P) : P := h
theorem Stop.o {P : Prop} (h : P) : Stop P := h

section
variable {prog : Program} {w : World} {A : Around} {E : Value → Shared → Prop} {s : Shared} {h₀ : Heap} {L H : Addr} {m : Str → Option Value} {news news' tl : List (Addr × Obj)} {n : Nat}

theorem getD_mem {items : List Value} {k : Int} (h0 : 0 ≤ k) (h1 : k < items.length) : items.getD k.toNat .none ∈ items := by
  have hk : k.toNat < items.length := by omega
  rw [List.getD_eq_getElem?_getD, List.getElem?_eq_getElem hk]
  exact List.getElem_mem hk

theorem isP_at {items : List Value} {key : Value → Int × Int} {k : Int} {e : Addr × Obj} (hp : ∀ v ∈ items, IsP tl key v) (h0 : 0 ≤ k) (h1 : k < items.length) : IsP (e :: tl) key (items.getD k.toNat .none) :=
  PairIn.mono (hp _ (getD_mem h0 h1)) fun _ h => .tail _ h
theorem isP_set {items : List Value} {key : Value → Int × Int} {v : Value} {k : Nat} (hp : ∀ v ∈ items, IsP tl key v) (hv : IsP tl key v) : ∀ u ∈ items.set k v, IsP tl key u := fun u hu => by
  rcases List.mem_or_eq_of_mem_set hu with h | h
  · exact hp u h
  · exact h ▸ hv
theorem get_V {value slice : PySem.Expr} {items : List Value} {k : Int} {u : Tok} {Q : Value → Shared → Prop} (N : News h₀ L s.heap news) (hm : (H, listOf items.toArray n) ∈ news)
    (h0 : 0 ≤ k) (h1 : k < items.length) (hfit : k < 2 ^ 63) (h : Q (items.getD k.toNat .none) s)
    (hs : subscripted slice false (.ref H) (.int k u) = operate [.ref H, .int k u] (getItem (.ref H) (.int k u)) := by with_unfolding_all rfl) :
    wpAny (model prog w) A (subscriptTail value slice (.ref H) (.int k u)) Q E s := by
  have hl : s.heap.IsList H items.toArray := PySem.IsL.isList (n := n) (N _ hm).1
  have hk : k.toNat < items.length := by omega
  refine tail_any hl.typeIs slot_list_getitem.lookup (wpAny_getItem_list hl h0 hfit (x := items.getD k.toNat .none) ?_ h) hs
  rw [List.getD_eq_getElem?_getD, List.getElem?_eq_getElem hk]
  simp [hk]

theorem set_V {items : List Value} {k : Int} {t : Tok} {v : Value} {Q : Unit → Shared → Prop} (F : Fr h₀ L s.heap m) (N : News h₀ L s.heap ((H, listOf items.toArray n) :: tl)) (hH : ∀ p ∈ tl, p.1 ≠ H)
    (h0 : 0 ≤ k) (h1 : k < items.length) (hfit : k < 2 ^ 63)
    (h : ∀ h', Fr h₀ L h' m → News h₀ L h' ((H, listOf (items.set k.toNat v).toArray n) :: tl) → Q () { s with heap := h' }) :
    wpAny (model prog w) A (setItem (.ref H) (.int k t) v) Q E s := by
  have z := N (H, listOf items.toArray n) (.head _)
  have hs : items.toArray.size = items.length := List.size_toArray ..
  refine ki_setAt z.1 h0 hfit (by omega) (h _ (F.change (Heap.SameBut.update ..) z.2.1 z.2.2) ?_)
  refine ki_turn (pre := []) _ N (fun _ h => nomatch h) hH ?_ ?_
  · show items.toArray.setIfInBounds k.toNat v = (items.set k.toNat v).toArray
    apply Array.toList_inj.mp
    simp
  · simp

theorem shr1 {x : Int} {t u : Tok} {Q : Value → Shared → Prop} (h : Q (.int (x / 2) s.toks) { s with toks := s.toks + 1 }) : wpAny (model prog w) A (binaryOp .RShift (.int x t) (.int 1 u)) Q E s := by
  have e : x / 2 = x.fdiv (2 ^ Int.toNat 1) := by
    rw [show (2 : Int) ^ Int.toNat 1 = 2 from by decide, Int.fdiv_eq_ediv_of_nonneg _ (by decide)]
  rw [e] at h
  exact rshift_int (by decide) h

theorem len_V {items : List Value} {Q : Value → Shared → Prop} (N : News h₀ L s.heap news) (hm : (H, listOf items.toArray n) ∈ news) (hz : items.length ≤ 10000)
    (h : Q (.int items.length (s.toks + 1)) { s with toks := s.toks + 1 + 1 }) : wpAny (model prog w) A (call (.builtin "len") [.ref H]) Q E s := by
  have e : items.toArray.size = items.length := List.size_toArray ..
  have hl : s.heap.IsList H items.toArray := PySem.IsL.isList (n := n) (N _ hm).1
  refine PySem.Calls.call_len_list hl (by omega) ?_
  rw [e]; exact h

theorem truthy_V {items : List Value} {Q : Bool → Shared → Prop} (N : News h₀ L s.heap news) (hm : (H, listOf items.toArray n) ∈ news) (hz : items.length ≤ 10000)
    (h : Q (decide (0 < items.length)) { s with toks := s.toks + 1 + 1 }) : wpAny (model prog w) A (truthy (.ref H)) Q E s := by
  have hl : s.heap.IsList H items.toArray := PySem.IsL.isList (n := n) (N _ hm).1
  have e' : items.toArray.size = items.length := List.size_toArray ..
  refine wpAny_truthy_list hl (by omega) ?_
  have e : (!items.toArray.isEmpty) = decide (0 < items.length) := by cases items <;> simp
  rw [e]; exact h

theorem pop_V {items : List Value} {Q : Value → Shared → Prop} (F : Fr h₀ L s.heap m) (N : News h₀ L s.heap ((H, listOf items.toArray n) :: tl)) (hH : ∀ p ∈ tl, p.1 ≠ H) (hne : 0 < items.length) (hz : items.length ≤ 10000)
    (h : ∀ h', Fr h₀ L h' m → News h₀ L h' ((H, listOf items.dropLast.toArray (n + 1)) :: tl) → Q (items.getLastD .none) { s with heap := h' }) : wpAny (model prog w) A (call (.builtin "list.pop") [.ref H]) Q E s := by
  have hne' : items ≠ [] := by intro e; rw [e] at hne; exact absurd hne (Nat.lt_irrefl 0)
  have e : kl_last items.toArray.toList = some (items.dropLast, items.getLastD .none) := by
    have h1 : items = items.dropLast ++ [items.getLastD .none] := by
      have := List.dropLast_concat_getLast hne'
      rw [List.getLastD_eq_getLast?, List.getLast?_eq_some_getLast hne']
      exact this.symm
    have h2 := kpa_last (items.getLastD .none) items.dropLast
    rw [← h1] at h2
    simpa using h2
  refine kl_pop F N e (Upd.head hH) ?_ h
  rw [sizeLine_eq]
  simp
  omega

theorem append_V {items : List Value} {x : Value} {Q : Value → Shared → Prop} (F : Fr h₀ L s.heap m) (N : News h₀ L s.heap ((H, listOf items.toArray n) :: tl)) (hH : ∀ p ∈ tl, p.1 ≠ H) (hz : items.length ≤ 10000)
    (h : ∀ h', Fr h₀ L h' m → News h₀ L h' ((H, listOf (items ++ [x]).toArray (n + 1)) :: tl) → Q .none { s with heap := h' }) : wpAny (model prog w) A (call (.builtin "list.append") [.ref H, x]) Q E s := by
  have e : items.toArray.push x = (items ++ [x]).toArray := by simp
  have e' : items.toArray.size = items.length := List.size_toArray ..
  refine append_K F N (Upd.head hH) ?_ (by rw [e', sizeLine_eq]; omega)
  rw [e]
  exact h

theorem lt_tree {a b : Addr} {x y x' y' : Int} {t1 t2 t1' t2' : Tok} {n n' : Nat} {P : PySem.Fin → Shared → Prop}
    (ha : s.heap.get? a = some (tup2 x y t1 t2 n)) (hb : s.heap.get? b = some (tup2 x' y' t1' t2' n')) (h : P (.done (.ret (.bool (ltP (x, y) (x', y'))))) s) :
    wpAny (model prog w) A (Builtin.«tuple.__lt__» ⟨[.ref a, .ref b], []⟩) P E s := by
  have hTb : s.TypeIs (.ref b) "tuple" := ⟨_, hb, rfl⟩
  show wpAny _ _ (isInstance (.ref b) (.type "tuple") >>= _) _ _ s
  refine wpAny_bind (wpAny_isInstance hTb isSubtype_tuple_tuple ?_)
  simp only [Bool.not_true, Bool.false_eq_true, if_false]
  refine wpAny_bind (wpAny_tupleItemsOf ha rfl ?_)
  refine wpAny_bind (wpAny_tupleItemsOf hb rfl ?_)
  refine wpAny_bind ?_
  show wpAny _ _ (forIn [(Value.int x t1, Value.int x' t1'), (Value.int y t2, Value.int y' t2')] _ _) _ _ s
  rw [List.forIn_cons]
  refine wpAny_bind (wpAny_bind (wpAny_eqBool_int ?_))
  by_cases e1 : x = x'
  · subst e1
    simp only [beq_self_eq_true, Bool.not_true, Bool.false_eq_true, if_false]
    refine wpAny_pure ?_
    dsimp only
    rw [List.forIn_cons]
    refine wpAny_bind (wpAny_bind (wpAny_eqBool_int ?_))
    by_cases e2 : y = y'
    · subst e2
      simp only [beq_self_eq_true, Bool.not_true, Bool.false_eq_true, if_false]
      refine wpAny_pure ?_
      dsimp only
      rw [List.forIn_nil]
      refine wpAny_pure ?_
      dsimp only
      refine wpAny_pure ?_
      have e : ltP (x, y) (x, y) = false := by simp [ltP]
      rw [e] at h
      exact h
    · have e : (y == y') = false := by simpa using e2
      rw [e]
      simp only [Bool.not_false, if_true]
      refine wpAny_bind (wpAny_rule (wpAny_bind (m := richCompare CmpOp.Lt _ _) (show wpAny _ _ (compareOp .Lt _ _) _ _ _ from lt_int ?_)))
      refine wpAny_bind (wpAny_pure (wpAny_pure ?_))
      dsimp only
      refine wpAny_pure (wpAny_pure ?_)
      have e' : ltP (x, y) (x, y') = decide (y < y') := by simp [ltP]
      rw [e'] at h
      exact h
  · have e : (x == x') = false := by simpa using e1
    rw [e]
    simp only [Bool.not_false, if_true]
    refine wpAny_bind (wpAny_rule (wpAny_bind (m := richCompare CmpOp.Lt _ _) (show wpAny _ _ (compareOp .Lt _ _) _ _ _ from lt_int ?_)))
    refine wpAny_bind (wpAny_pure (wpAny_pure ?_))
    dsimp only
    refine wpAny_pure (wpAny_pure ?_)
    have e' : ltP (x, y) (x', y') = decide (x < x') := by simp [ltP, e1]
    rw [e'] at h
    exact h

theorem lt_V {key : Value → Int × Int} {v v' : Value} {Q : Value → Shared → Prop} (N : News h₀ L s.heap news) (hv : IsP news key v) (hv' : IsP news key v') (hu : A.units < cLine)
    (h : Q (.bool (ltP (key v) (key v'))) s) : wpAny (model prog w) A (compareOp .Lt v v') Q E s := by
  obtain ⟨a, t1, t2, n, e, hm⟩ := hv
  obtain ⟨a', t1', t2', n', e', hm'⟩ := hv'
  have ha := (N _ hm).1
  have ha' := (N _ hm').1
  rw [e, e']
  refine cmp_ofLt (wpAny_richCompare_same_room (op := .Lt) ⟨_, ha, rfl⟩ ⟨_, ha', rfl⟩ PySem.F.slot_tuple_lt (wpAny_call_entry PySem.F.slot_tuple_lt ⟨_, ha, rfl⟩ PySem.F.entry_tuple_lt
    (lt_tree ha ha' ⟨_, rfl, (fun e => nomatch e), ?_⟩) (PySem.F.args_tuple_lt_2 _ _)) hu)
  exact h
end
end Mine
end
section
/-! heapq's functions as plain functions over lists; nothing of the program here -/
namespace Mine
section
variable {α : Type} (lt : α → α → Bool) (d : α)

/-- _siftdown's loop and its last store: the new item goes up from q as long as it is less than the parent -/
def sdGo (nv : α) (st : Nat) (xs : List α) (q : Nat) : List α :=
  if h : st < q then
    if lt nv (xs.getD ((q - 1) / 2) d) = true then sdGo nv st (xs.set q (xs.getD ((q - 1) / 2) d)) ((q - 1) / 2) else xs.set q nv
  else xs.set q nv
termination_by q
decreasing_by omega

def sd (xs : List α) (st q : Nat) : List α := sdGo lt d (xs.getD q d) st xs q

/-- the child that _siftup takes -/
def child (xs : List α) (en c : Nat) : Nat := if c + 1 < en && !(lt (xs.getD c d) (xs.getD (c + 1) d)) then c + 1 else c
theorem child_ge (xs : List α) (en c : Nat) : c ≤ child lt d xs en c := by unfold child; split <;> omega
theorem child_lt (xs : List α) (en c : Nat) (h : c < en) : child lt d xs en c < en := by
  unfold child; split
  · rename_i h'; simp at h'; omega
  · exact h

/-- _siftup's loop: the lesser children come up; the place that is left -/
def suGo (en : Nat) (xs : List α) (q : Nat) : List α × Nat :=
  if h : 2 * q + 1 < en then suGo en (xs.set q (xs.getD (child lt d xs en (2 * q + 1)) d)) (child lt d xs en (2 * q + 1)) else (xs, q)
termination_by en - q
decreasing_by
  have h1 := child_ge lt d xs en (2 * q + 1)
  have h2 := child_lt lt d xs en (2 * q + 1) h
  omega

def su (xs : List α) (q : Nat) : List α :=
  sd lt d ((suGo lt d xs.length xs q).1.set (suGo lt d xs.length xs q).2 (xs.getD q d)) q (suGo lt d xs.length xs q).2

def hpush (xs : List α) (v : α) : List α := sd lt d (xs ++ [v]) 0 xs.length
def hpop (xs : List α) : α × List α :=
  if xs.dropLast = [] then (xs.getLastD d, []) else (xs.dropLast.getD 0 d, su lt d (xs.dropLast.set 0 (xs.getLastD d)) 0)
def hrepl (xs : List α) (v : α) : α × List α := (xs.getD 0 d, su lt d (xs.set 0 v) 0)
/-- heapify's turns: from k down -/
def hfyGo : Nat → List α → List α
  | 0, xs => xs
  | k + 1, xs => hfyGo k (su lt d xs k)
def hfy (xs : List α) : List α := hfyGo lt d (xs.length / 2) xs
end

section
variable {α : Type} {lt : α → α → Bool} {d : α}
theorem sdGo_up {nv : α} {st : Nat} {xs : List α} {q : Nat} (h : st < q) (h' : lt nv (xs.getD ((q - 1) / 2) d) = true) : sdGo lt d nv st xs q = sdGo lt d nv st (xs.set q (xs.getD ((q - 1) / 2) d)) ((q - 1) / 2) := by
  rw [sdGo, dif_pos h, if_pos h']
theorem sdGo_stay {nv : α} {st : Nat} {xs : List α} {q : Nat} (h' : lt nv (xs.getD ((q - 1) / 2) d) = false) : sdGo lt d nv st xs q = xs.set q nv := by
  rw [sdGo]
  split
  · rw [if_neg (by rw [h']; exact Bool.false_ne_true)]
  · rfl
theorem sdGo_end {nv : α} {st : Nat} {xs : List α} {q : Nat} (h : ¬ st < q) : sdGo lt d nv st xs q = xs.set q nv := by
  rw [sdGo, dif_neg h]
theorem suGo_down {en : Nat} {xs : List α} {q : Nat} (h : 2 * q + 1 < en) : suGo lt d en xs q = suGo lt d en (xs.set q (xs.getD (child lt d xs en (2 * q + 1)) d)) (child lt d xs en (2 * q + 1)) := by
  conv => lhs; rw [suGo, dif_pos h]
theorem suGo_end {en : Nat} {xs : List α} {q : Nat} (h : ¬ 2 * q + 1 < en) : suGo lt d en xs q = (xs, q) := by
  rw [suGo, dif_neg h]
end
end Mine
end
section
/-! heapq's functions keep what they hold, and keep the heap's order: plain Lean -/
namespace Mine
section
variable {α : Type} {lt : α → α → Bool} {d : α}

theorem getD_set {xs : List α} {q j : Nat} {v : α} (hq : q < xs.length) : (xs.set q v).getD j d = if j = q then v else xs.getD j d := by
  rw [List.getD_eq_getElem?_getD, List.getD_eq_getElem?_getD, List.getElem?_set]
  by_cases h : q = j
  · subst h; simp [hq]
  · rw [if_neg h, if_neg (fun e => h e.symm)]
theorem set_getD {xs : List α} {q : Nat} (hq : q < xs.length) : xs.set q (xs.getD q d) = xs := by
  apply List.ext_getElem?
  intro j
  rw [List.getElem?_set]
  by_cases h : q = j
  · subst h; simp [hq]
  · rw [if_neg h]
theorem getD_mem' {xs : List α} {q : Nat} (hq : q < xs.length) : xs.getD q d ∈ xs := by
  rw [List.getD_eq_getElem?_getD, List.getElem?_eq_getElem hq]
  exact List.getElem_mem hq

theorem set_perm_erase {a : α} : ∀ {l : List α} {n : Nat}, n < l.length → (l.set n a).Perm (a :: l.eraseIdx n)
  | [], _, h => absurd h (Nat.not_lt_zero _)
  | _ :: _, 0, _ => .refl _
  | x :: l, n + 1, h => ((set_perm_erase (l := l) (n := n) (by simpa using h)).cons x).trans (.swap _ _ _)

theorem swap_perm (a b : α) : ∀ (l : List α) (i j : Nat), i < l.length → j < l.length → i ≠ j → ((l.set i a).set j b).Perm ((l.set i b).set j a)
  | [], _, _, h, _, _ => absurd h (Nat.not_lt_zero _)
  | x :: l, 0, 0, _, _, h => absurd rfl h
  | x :: l, 0, j + 1, _, hj, _ => by
    have hj' : j < l.length := by simpa using hj
    show (a :: l.set j b).Perm (b :: l.set j a)
    have h1 := (set_perm_erase (a := b) hj').cons a
    have h2 := (set_perm_erase (a := a) hj').cons b
    exact h1.trans ((List.Perm.swap b a _).trans h2.symm)
  | x :: l, i + 1, 0, hi, _, _ => by
    have hi' : i < l.length := by simpa using hi
    show (b :: l.set i a).Perm (a :: l.set i b)
    have h1 := (set_perm_erase (a := a) hi').cons b
    have h2 := (set_perm_erase (a := b) hi').cons a
    exact h1.trans ((List.Perm.swap a b _).trans h2.symm)
  | x :: l, i + 1, j + 1, hi, hj, h => (swap_perm a b l i j (by simpa using hi) (by simpa using hj) (fun e => h (by rw [e]))).cons x

/-- the hole moves from q to p -/
theorem hole_perm {xs : List α} {p q : Nat} (v : α) (hp : p < xs.length) (hq : q < xs.length) (h : p ≠ q) : ((xs.set q (xs.getD p d)).set p v).Perm (xs.set q v) := by
  have h1 := swap_perm (xs.getD p d) v xs q p hq hp (Ne.symm h)
  have h2 : (xs.set q v).set p (xs.getD p d) = xs.set q v := by
    have e : xs.getD p d = (xs.set q v).getD p d := by rw [getD_set hq, if_neg h]
    rw [e]
    exact set_getD (by rw [List.length_set]; exact hp)
  rw [h2] at h1
  exact h1

theorem sdGo_length (nv : α) (st : Nat) : ∀ (q : Nat) (xs : List α), (sdGo lt d nv st xs q).length = xs.length := by
  intro q
  induction q using Nat.strongRecOn with
  | ind q ih =>
    intro xs
    rw [sdGo]
    split
    · split
      · rw [ih _ (by omega), List.length_set]
      · exact List.length_set ..
    · exact List.length_set ..
theorem sdGo_perm (nv : α) (st : Nat) : ∀ (q : Nat) (xs : List α), q < xs.length → (sdGo lt d nv st xs q).Perm (xs.set q nv) := by
  intro q
  induction q using Nat.strongRecOn with
  | ind q ih =>
    intro xs hq
    rw [sdGo]
    split
    · split
      · refine (ih _ (by omega) _ (by rw [List.length_set]; omega)).trans ?_
        exact hole_perm nv (by omega) hq (by omega)
      · exact .refl _
    · exact .refl _
theorem sd_perm {xs : List α} {st q : Nat} (hq : q < xs.length) : (sd lt d xs st q).Perm xs := by
  unfold sd
  have h := sdGo_perm (lt := lt) (d := d) (xs.getD q d) st q xs hq
  rwa [set_getD hq] at h
theorem sd_length {xs : List α} {st q : Nat} : (sd lt d xs st q).length = xs.length := sdGo_length ..

theorem suGo_spec (en : Nat) : ∀ (m : Nat) (q : Nat) (xs : List α), en - q = m → xs.length = en → q < en → (suGo lt d en xs q).1.length = en ∧ (suGo lt d en xs q).2 < en ∧ ∀ v, ((suGo lt d en xs q).1.set (suGo lt d en xs q).2 v).Perm (xs.set q v) := by
  intro m
  induction m using Nat.strongRecOn with
  | ind m ih =>
    intro q xs hm hl hq
    by_cases h : 2 * q + 1 < en
    · rw [suGo_down h]
      have h1 := child_ge lt d xs en (2 * q + 1)
      have h2 := child_lt lt d xs en (2 * q + 1) h
      obtain ⟨a, b, c⟩ := ih _ (by omega) (child lt d xs en (2 * q + 1)) (xs.set q (xs.getD (child lt d xs en (2 * q + 1)) d)) rfl (by rw [List.length_set]; exact hl) h2
      refine ⟨a, b, fun v => (c v).trans ?_⟩
      exact hole_perm v (by omega) (by omega) (by omega)
    · rw [suGo_end h]
      exact ⟨hl, hq, fun _ => .refl _⟩
theorem su_perm {xs : List α} {q : Nat} (hq : q < xs.length) : (su lt d xs q).Perm xs := by
  obtain ⟨a, b, c⟩ := suGo_spec (lt := lt) (d := d) xs.length _ q xs rfl rfl hq
  unfold su
  refine (sd_perm (by rw [List.length_set, a]; exact b)).trans ?_
  have := c (xs.getD q d)
  rwa [set_getD hq] at this
theorem su_length {xs : List α} {q : Nat} (hq : q < xs.length) : (su lt d xs q).length = xs.length := (su_perm hq).length_eq

/-- the order from the place k on -/
def HeapFrom (lt : α → α → Bool) (d : α) (k : Nat) (xs : List α) : Prop := ∀ j, j < xs.length → 0 < j → k ≤ (j - 1) / 2 → lt (xs.getD j d) (xs.getD ((j - 1) / 2) d) = false

structure Ord (lt : α → α → Bool) : Prop where
  trans : ∀ a b c, lt b a = false → lt c b = false → lt c a = false
  asym : ∀ a b, lt a b = true → lt b a = false
theorem Ord.refl (O : Ord lt) (a : α) : lt a a = false := by
  cases h : lt a a with
  | false => rfl
  | true => rw [← h]; exact O.asym a a h

/-- k is above q (or is it) -/
inductive Desc (k : Nat) : Nat → Prop
  | refl : Desc k k
  | step {q c : Nat} : Desc k q → 0 < c → (c - 1) / 2 = q → Desc k c
theorem Desc.ge {k q : Nat} (h : Desc k q) : k ≤ q := by
  induction h with
  | refl => exact Nat.le_refl _
  | step _ h1 h2 ih => omega
theorem Desc.up {k q : Nat} (h : Desc k q) (hne : q ≠ k) : Desc k ((q - 1) / 2) := by
  cases h with
  | refl => exact absurd rfl hne
  | step h1 h2 h3 => rw [h3]; exact h1
theorem desc_zero : ∀ q, Desc 0 q := by
  intro q
  induction q using Nat.strongRecOn with
  | ind q ih =>
    rcases Nat.eq_zero_or_pos q with rfl | h
    · exact .refl
    · exact .step (ih ((q - 1) / 2) (by omega)) h rfl

theorem sdGo_heap (O : Ord lt) (nv : α) (k : Nat) : ∀ (q : Nat) (xs : List α), q < xs.length → Desc k q →
    (∀ j, j < xs.length → 0 < j → k ≤ (j - 1) / 2 → j ≠ q → (j - 1) / 2 ≠ q → lt (xs.getD j d) (xs.getD ((j - 1) / 2) d) = false) →
    (∀ c, c < xs.length → 0 < c → (c - 1) / 2 = q → lt (xs.getD c d) nv = false) →
    (∀ c, c < xs.length → 0 < c → (c - 1) / 2 = q → 0 < q → k ≤ (q - 1) / 2 → lt (xs.getD c d) (xs.getD ((q - 1) / 2) d) = false) →
    HeapFrom lt d k (sdGo lt d nv k xs q) := by
  intro q
  induction q using Nat.strongRecOn with
  | ind q ih =>
    intro xs hq hD h1 h2 h3
    by_cases hkq : k < q
    · have hDu := (hD.up (Nat.ne_of_gt hkq)).ge
      cases hlt : lt nv (xs.getD ((q - 1) / 2) d) with
      | true =>
        rw [sdGo_up hkq hlt]
        have hpp : (q - 1) / 2 < q := by omega
        refine ih ((q - 1) / 2) hpp _ (by rw [List.length_set]; omega) (hD.up (Nat.ne_of_gt hkq)) ?_ ?_ ?_
        · intro j hj hj0 hk hne hne2
          rw [List.length_set] at hj
          rw [getD_set hq, getD_set hq]
          by_cases e1 : j = q
          · subst e1; exact absurd rfl hne2
          · rw [if_neg e1]
            by_cases e2 : (j - 1) / 2 = q
            · rw [if_pos e2]
              exact h3 j hj hj0 e2 (by omega) hDu
            · rw [if_neg e2]
              exact h1 j hj hj0 hk e1 e2
        · intro c hc hc0 hcp
          rw [List.length_set] at hc
          rw [getD_set hq]
          by_cases e1 : c = q
          · rw [if_pos e1]; exact O.asym _ _ hlt
          · rw [if_neg e1]
            have := h1 c hc hc0 (by omega) e1 (by omega)
            rw [hcp] at this
            exact O.trans _ _ _ (O.asym _ _ hlt) this
        · intro c hc hc0 hcp hp0 hkp
          rw [List.length_set] at hc
          rw [getD_set hq, getD_set hq]
          have hpar := h1 ((q - 1) / 2) (by omega) hp0 hkp (by omega) (by omega)
          rw [if_neg (show ¬ ((q - 1) / 2 - 1) / 2 = q by omega)]
          by_cases e1 : c = q
          · rw [if_pos e1]; exact hpar
          · rw [if_neg e1]
            have := h1 c hc hc0 (by omega) e1 (by omega)
            rw [hcp] at this
            exact O.trans _ _ _ hpar this
      | false =>
        rw [sdGo_stay hlt]
        intro j hj hj0 hk
        rw [List.length_set] at hj
        rw [getD_set hq, getD_set hq]
        by_cases e1 : j = q
        · rw [if_pos e1, if_neg (by omega), e1]; exact hlt
        · rw [if_neg e1]
          by_cases e2 : (j - 1) / 2 = q
          · rw [if_pos e2]; exact h2 j hj hj0 e2
          · rw [if_neg e2]; exact h1 j hj hj0 hk e1 e2
    · have e : q = k := by have := hD.ge; omega
      rw [sdGo_end hkq]
      intro j hj hj0 hk
      rw [List.length_set] at hj
      rw [getD_set hq, getD_set hq]
      by_cases e1 : j = q
      · omega
      · rw [if_neg e1]
        by_cases e2 : (j - 1) / 2 = q
        · rw [if_pos e2]; exact h2 j hj hj0 e2
        · rw [if_neg e2]; exact h1 j hj hj0 hk e1 e2

theorem child_min (O : Ord lt) (xs : List α) (en q : Nat) : ∀ j, j < en → 0 < j → (j - 1) / 2 = q → lt (xs.getD j d) (xs.getD (child lt d xs en (2 * q + 1)) d) = false := by
  intro j hj hj0 hp
  have hcase : j = 2 * q + 1 ∨ j = 2 * q + 1 + 1 := by omega
  unfold child
  split
  · rename_i h
    simp only [Bool.and_eq_true, Bool.not_eq_true', decide_eq_true_eq] at h
    rcases hcase with rfl | rfl
    · exact h.2
    · exact O.refl _
  · rename_i h
    simp only [Bool.and_eq_true, Bool.not_eq_true', decide_eq_true_eq, not_and, Bool.not_eq_false] at h
    rcases hcase with rfl | rfl
    · exact O.refl _
    · exact O.asym _ _ (h hj)

theorem suGo_heap (O : Ord lt) (k en : Nat) : ∀ (m q : Nat) (xs : List α), en - q = m → xs.length = en → q < en → Desc k q →
    (∀ j, j < en → 0 < j → k ≤ (j - 1) / 2 → j ≠ q → (j - 1) / 2 ≠ q → lt (xs.getD j d) (xs.getD ((j - 1) / 2) d) = false) →
    (∀ c, c < en → 0 < c → (c - 1) / 2 = q → 0 < q → k ≤ (q - 1) / 2 → lt (xs.getD c d) (xs.getD ((q - 1) / 2) d) = false) →
    Desc k (suGo lt d en xs q).2 ∧ ¬ 2 * (suGo lt d en xs q).2 + 1 < en ∧
      (∀ j, j < en → 0 < j → k ≤ (j - 1) / 2 → j ≠ (suGo lt d en xs q).2 → (j - 1) / 2 ≠ (suGo lt d en xs q).2 → lt ((suGo lt d en xs q).1.getD j d) ((suGo lt d en xs q).1.getD ((j - 1) / 2) d) = false) := by
  intro m
  induction m using Nat.strongRecOn with
  | ind m ih =>
    intro q xs hm hl hq hD h1 h2
    by_cases h : 2 * q + 1 < en
    · rw [suGo_down h]
      have c1 := child_ge lt d xs en (2 * q + 1)
      have c2 := child_lt lt d xs en (2 * q + 1) h
      have cp : (child lt d xs en (2 * q + 1) - 1) / 2 = q := by
        unfold child; split <;> omega
      have cm := child_min (d := d) O xs en q
      refine ih _ (by omega) (child lt d xs en (2 * q + 1)) _ rfl (by rw [List.length_set]; exact hl) c2 (.step hD (by omega) cp) ?_ ?_
      · intro j hj hj0 hk hne hne2
        rw [getD_set (by omega), getD_set (by omega)]
        by_cases e1 : j = q
        · rw [if_pos e1]
          subst e1
          rw [if_neg (by omega)]
          exact h2 _ c2 (by omega) cp (by omega) hk
        · rw [if_neg e1]
          by_cases e2 : (j - 1) / 2 = q
          · rw [if_pos e2]; exact cm j hj hj0 e2
          · rw [if_neg e2]; exact h1 j hj hj0 hk e1 e2
      · intro c hc hc0 hcp _ hkp
        rw [getD_set (by omega), getD_set (by omega)]
        rw [if_neg (by omega), cp, if_pos rfl]
        have := h1 c hc hc0 (by have := hD.ge; omega) (by omega) (by omega)
        rwa [hcp] at this
    · rw [suGo_end h]
      exact ⟨hD, h, h1⟩

theorem su_heap (O : Ord lt) {xs : List α} {k : Nat} (hk : k < xs.length) (h : HeapFrom lt d (k + 1) xs) : HeapFrom lt d k (su lt d xs k) := by
  obtain ⟨a, b, _⟩ := suGo_spec (lt := lt) (d := d) xs.length _ k xs rfl rfl hk
  obtain ⟨e1, e2, e3⟩ := suGo_heap (d := d) O k xs.length _ k xs rfl rfl hk .refl (fun j hj hj0 hkj hne hne2 => h j hj hj0 (by omega)) (fun c hc hc0 hcp hk0 hkk => by omega)
  unfold su sd
  have hb : (suGo lt d xs.length xs k).2 < (suGo lt d xs.length xs k).1.length := by rw [a]; exact b
  refine sdGo_heap O _ k _ _ (by rw [List.length_set]; exact hb) e1 ?_ ?_ ?_
  · intro j hj hj0 hkj hne hne2
    rw [List.length_set, a] at hj
    rw [getD_set hb, getD_set hb, if_neg hne, if_neg hne2]
    exact e3 j hj hj0 hkj hne hne2
  · intro c hc hc0 hcp
    rw [List.length_set, a] at hc
    omega
  · intro c hc hc0 hcp
    rw [List.length_set, a] at hc
    omega

theorem heap_min (O : Ord lt) {xs : List α} (h : HeapFrom lt d 0 xs) : ∀ j, j < xs.length → lt (xs.getD j d) (xs.getD 0 d) = false := by
  intro j
  induction j using Nat.strongRecOn with
  | ind j ih =>
    intro hj
    rcases Nat.eq_zero_or_pos j with rfl | h0
    · exact O.refl _
    · exact O.trans _ _ _ (ih ((j - 1) / 2) (by omega) (by omega)) (h j hj h0 (Nat.zero_le _))
theorem heap_least (O : Ord lt) {xs : List α} (h : HeapFrom lt d 0 xs) {v : α} (hv : v ∈ xs) : lt v (xs.getD 0 d) = false := by
  obtain ⟨j, hj, e⟩ := List.getElem_of_mem hv
  have := heap_min O h j hj
  rw [List.getD_eq_getElem?_getD, List.getElem?_eq_getElem hj] at this
  simpa [e] using this

theorem hpush_perm {xs : List α} {v : α} : (hpush lt d xs v).Perm (v :: xs) := by
  unfold hpush
  refine (sd_perm (by simp)).trans ?_
  exact List.perm_append_comm.trans (.refl _)
theorem hpush_heap (O : Ord lt) {xs : List α} {v : α} (h : HeapFrom lt d 0 xs) : HeapFrom lt d 0 (hpush lt d xs v) := by
  unfold hpush sd
  have hl : (xs ++ [v]).length = xs.length + 1 := by simp
  refine sdGo_heap O _ 0 _ _ (by omega) (desc_zero _) ?_ ?_ ?_
  · intro j hj hj0 _ hne hne2
    have hj' : j < xs.length := by omega
    have e1 : (xs ++ [v]).getD j d = xs.getD j d := by rw [List.getD_eq_getElem?_getD, List.getD_eq_getElem?_getD, List.getElem?_append_left hj']
    have e2 : (xs ++ [v]).getD ((j - 1) / 2) d = xs.getD ((j - 1) / 2) d := by rw [List.getD_eq_getElem?_getD, List.getD_eq_getElem?_getD, List.getElem?_append_left (by omega)]
    rw [e1, e2]
    exact h j hj' hj0 (Nat.zero_le _)
  · intro c hc hc0 hcp; omega
  · intro c hc hc0 hcp; omega

theorem heapFrom_set0 {xs : List α} {v : α} (h : HeapFrom lt d 0 xs) (h0 : 0 < xs.length) : HeapFrom lt d (0 + 1) (xs.set 0 v) := by
  intro j hj hj0 hk
  rw [List.length_set] at hj
  rw [getD_set h0, getD_set h0, if_neg (by omega), if_neg (by omega)]
  exact h j hj hj0 (Nat.zero_le _)

theorem hrepl_perm {xs : List α} {v : α} (h0 : 0 < xs.length) : ((hrepl lt d xs v).1 :: (hrepl lt d xs v).2).Perm (v :: xs) := by
  unfold hrepl
  dsimp only
  refine ((su_perm (by rw [List.length_set]; exact h0)).cons _).trans ?_
  cases xs with
  | nil => exact absurd h0 (Nat.lt_irrefl 0)
  | cons x r => exact List.Perm.swap _ _ _
theorem hrepl_heap (O : Ord lt) {xs : List α} {v : α} (h : HeapFrom lt d 0 xs) (h0 : 0 < xs.length) : HeapFrom lt d 0 (hrepl lt d xs v).2 := by
  unfold hrepl
  exact su_heap O (by rw [List.length_set]; exact h0) (heapFrom_set0 h h0)

theorem heapFrom_dropLast {xs : List α} (h : HeapFrom lt d 0 xs) : HeapFrom lt d 0 xs.dropLast := by
  intro j hj hj0 hk
  rw [List.length_dropLast] at hj
  have e (i : Nat) (hi : i < xs.length - 1) : xs.dropLast.getD i d = xs.getD i d := by
    rw [List.getD_eq_getElem?_getD, List.getD_eq_getElem?_getD, List.getElem?_dropLast, if_pos hi]
  rw [e j hj, e _ (by omega)]
  exact h j (by omega) hj0 hk
theorem hpop_perm {xs : List α} (h0 : 0 < xs.length) : ((hpop lt d xs).1 :: (hpop lt d xs).2).Perm xs := by
  have hne : xs ≠ [] := by intro e; rw [e] at h0; exact absurd h0 (Nat.lt_irrefl 0)
  have hd : xs = xs.dropLast ++ [xs.getLastD d] := by
    have := List.dropLast_concat_getLast hne
    rw [List.getLastD_eq_getLast?, List.getLast?_eq_some_getLast hne]
    exact this.symm
  unfold hpop
  split
  · rename_i he
    dsimp only
    rw [he, List.nil_append] at hd
    rw [← hd]
  · rename_i he
    have hl : 0 < xs.dropLast.length := List.length_pos_iff.mpr he
    dsimp only
    refine ((su_perm (by rw [List.length_set]; exact hl)).cons _).trans ?_
    have h2 : (xs.dropLast.getD 0 d :: xs.dropLast.set 0 (xs.getLastD d)).Perm (xs.getLastD d :: xs.dropLast) := by
      cases hx : xs.dropLast with
      | nil => exact absurd hx he
      | cons x r => exact List.Perm.swap _ _ _
    refine h2.trans ?_
    conv => rhs; rw [hd]
    exact (List.perm_append_comm (l₁ := [xs.getLastD d]) (l₂ := xs.dropLast))
theorem hpop_heap (O : Ord lt) {xs : List α} (h : HeapFrom lt d 0 xs) : HeapFrom lt d 0 (hpop lt d xs).2 := by
  unfold hpop
  split
  · intro j hj; exact absurd hj (Nat.not_lt_zero _)
  · rename_i he
    have hl : 0 < xs.dropLast.length := List.length_pos_iff.mpr he
    exact su_heap O (by rw [List.length_set]; exact hl) (heapFrom_set0 (heapFrom_dropLast h) hl)
theorem hpop_fst {xs : List α} (h0 : 0 < xs.length) : (hpop lt d xs).1 = xs.getD 0 d := by
  unfold hpop
  split
  · rename_i he
    dsimp only
    have hl : xs.dropLast.length = 0 := by rw [he]; rfl
    rw [List.length_dropLast] at hl
    match xs, h0, hl with
    | [x], _, _ => rfl
    | _ :: _ :: _, _, hl => simp at hl
  · rename_i he
    have hl : 0 < xs.dropLast.length := List.length_pos_iff.mpr he
    rw [List.length_dropLast] at hl
    dsimp only
    rw [List.getD_eq_getElem?_getD, List.getD_eq_getElem?_getD, List.getElem?_dropLast, if_pos (by omega)]

theorem hfyGo_perm : ∀ (k : Nat) (xs : List α), k ≤ xs.length → (hfyGo lt d k xs).Perm xs
  | 0, _, _ => .refl _
  | k + 1, xs, h => (hfyGo_perm k _ (by rw [su_length (by omega)]; omega)).trans (su_perm (by omega))
theorem hfyGo_heap (O : Ord lt) : ∀ (k : Nat) (xs : List α), k ≤ xs.length → HeapFrom lt d k xs → HeapFrom lt d 0 (hfyGo lt d k xs)
  | 0, _, _, h => h
  | k + 1, xs, hk, h => hfyGo_heap O k _ (by rw [su_length (by omega)]; omega) (su_heap O (by omega) h)
theorem hfy_perm {xs : List α} : (hfy lt d xs).Perm xs := hfyGo_perm _ _ (by omega)
theorem hfy_heap (O : Ord lt) {xs : List α} : HeapFrom lt d 0 (hfy lt d xs) := hfyGo_heap O _ _ (by omega) fun j hj hj0 hk => by omega
end
end Mine
end
section
open PySem PySem.Calls PySem.W PyProof.Rows
set_option Elab.async false
set_option maxRecDepth 100000
set_option maxHeartbeats 4000000
namespace Mine
theorem fillDummySd (w : World) (h : Heap) (_ : PySem.Challenge.rw_pm0017_01.Holds → (hd.heap_39 w.params).In h) : True := by
  have z : PySem.Challenge.rw_pm0017_01.Holds → (hd.heap_39 w.params).In h → True := by
    k_fill
    w_top off
    intro _ _; trivial
  trivial
section
variable {prog : Program} {w : World} {p : Program} {loose : List Str} {mean : ExcName → Option Value} {mg mb : Str → Option Value}
  {dp un : Nat} {gd : Option (List Code)} {cn : Str} {cs : Scope} {a : Addr} {ccd : Value} {cl : List (Str × Addr)} {outer : List Env} {A₀ : Around} {base h₀ : Heap} {L : Addr} {m : Str → Option Value} {s : Shared}
  {Q E : Value → Shared → Prop} {H : Addr} {n : Nat} {tl : List (Addr × Obj)}
local macro_rules | `(tactic| walk_at "subscriptTail") => `(tactic| (k_here; (with_reducible show wpAny _ _ (subscriptTail _ _ (Value.ref _) (Value.int _ _)) _ _ _); k_dflt (refine' get_V ?k1 ?k2 ?k3 ?k4 ?k5 ?_ ?k6; (case k1 => k_asm); (case k2 => k_mem); (case k3 => omega); (case k4 => omega); (case k5 => omega); (case k6 => with_unfolding_all rfl); k_whole)))
local macro_rules | `(tactic| walk_at "MINE go") => `(tactic| repeat' ((fail_if_success (with_reducible show Stop _)); (first | (k_unfold; (try dsimp only)) | (k_end; wrow_close) | walk1 | (dsimp only; walk1) | (leave1; walk_say "STEP leave1"; try dsimp only) | fail "no step")))
local macro_rules | `(tactic| walk_at "exec While Compare cons nil") => `(tactic| refine Stop.i ?_)
local macro_rules | `(tactic| walk_at "KswEnd") => `(tactic| refine Stop.i ?_)
local macro_rules | `(tactic| walk_at "call ref") => `(tactic| refine Stop.i ?_)
local macro_rules | `(tactic| walk_at "compareOp Lt") => `(tactic| (k_here; k_dflt (refine' lt_V ?k1 ?k2 ?k3 ?k4 ?_; (case k1 => k_asm); (case k2 => (refine isP_at (by assumption) ?_ ?_ <;> omega)); (case k3 => (refine isP_at (by assumption) ?_ ?_ <;> omega)); (case k4 => ktr_units); k_whole)))
local macro_rules | `(tactic| walk_at "setItem ref int") => `(tactic| (k_here; (with_reducible show wpAny _ _ (setItem (Value.ref _) (Value.int _ _) _) _ _ _); k_dflt (refine' set_V ?k1 ?k2 ?k3 ?k4 ?k5 ?k6 ?_; (case k1 => k_asm); (case k2 => k_asm); (case k3 => assumption); (case k4 => omega); (case k5 => omega); (case k6 => omega); k_whole); intro h' F' N'; (try k_sweep)))
local macro_rules | `(tactic| walk_at "binaryOp RShift int int") => `(tactic| (refine shr1 ?_))
local macro_rules | `(tactic| walk_at "call builtin:len") => `(tactic| (k_here; (with_reducible show wpAny _ _ (call (Value.builtin _) [Value.ref _]) _ _ _); k_dflt (refine' len_V ?k1 ?k2 ?k3 ?_; (case k1 => k_asm); (case k2 => k_mem); (case k3 => omega); k_whole)))
local macro_rules | `(tactic| walk_at "truthy ref") => `(tactic| (k_here; (with_reducible show wpAny _ _ (truthy (Value.ref _)) _ _ _); k_dflt (refine' truthy_V ?k1 ?k2 ?k3 ?_; (case k1 => k_asm); (case k2 => k_mem); (case k3 => omega); k_whole)))
local macro_rules | `(tactic| walk_at "call builtin:list.pop") => `(tactic| (k_here; (with_reducible show wpAny _ _ (call (Value.builtin _) [Value.ref _]) _ _ _); k_dflt (refine' pop_V ?k1 ?k2 ?k3 ?k4 ?k5 ?_; (case k1 => k_asm); (case k2 => k_asm); (case k3 => assumption); (case k4 => omega); (case k5 => omega); k_whole); intro h' F' N'; (try k_sweep)))
local macro_rules | `(tactic| walk_at "call builtin:list.append") => `(tactic| (k_here; (with_reducible show wpAny _ _ (call (Value.builtin _) [Value.ref _, _]) _ _ _); k_dflt (refine' append_V ?k1 ?k2 ?k3 ?k4 ?_; (case k1 => k_asm); (case k2 => k_asm); (case k3 => assumption); (case k4 => omega); k_whole); intro h' F' N'; (try k_sweep)))
local macro_rules | `(tactic| walk_at "InvEndN") => `(tactic| refine Stop.i ?_)
abbrev ltK (key : Value → Int × Int) (v v' : Value) : Bool := ltP (key v) (key v')

theorem siftdown_call {items : List Value} {key : Value → Int × Int} {st q : Int} {tst tq : Tok}
    (B : Below A₀ base outer h₀) (F : Fr h₀ L s.heap m) (X : (hd.heap_39 w.params).In h₀) (N : News h₀ L s.heap ((H, listOf items.toArray n) :: tl)) (T : Top p loose mean mg mb h₀) (hk : cs.kind = .function)
    (hH : ∀ e ∈ tl, e.1 ≠ H) (hp : ∀ v ∈ items, IsP tl key v) (hst : 0 ≤ st) (hsq : st ≤ q) (hq : q < items.length) (hlen : items.length ≤ 1000) (hd' : dp + 10 < recursionLimit) (hu : un + 100 < cLine)
    (ret : ∀ h' tk', Fr h₀ L h' m → News h₀ L h' ((H, listOf (sd (ltK key) .none items st.toNat q.toNat).toArray n) :: tl) → Q .none { s with heap := h', toks := tk' }) :
    wpAny (model prog w) (ktrTop dp un gd cn cs L a ccd cl outer) (call (.ref 49) [.ref H, .int st tst, .int q tq]) Q E s := by
  refine wpAny_call ?_
  k_dflt ktr_enter
  walk_at "MINE go"
  refine Stop.o ?_
  refine ksw_while (σ := List Value × Int × Tok) (fun c => (H, listOf c.1.toArray n) :: tl) (fun c => [(Str.ofString "pos", .int c.2.1 c.2.2)]) (fun _ => True) [Str.ofString "parentpos", Str.ofString "parent"]
    (fun c => c.1.length = items.length ∧ (∀ v ∈ c.1, IsP tl key v) ∧ 0 ≤ c.2.1 ∧ c.2.1 ≤ q ∧ sdGo (ltK key) .none (items.getD q.toNat .none) st.toNat c.1 c.2.1.toNat = sd (ltK key) .none items st.toNat q.toNat) (fun c => c.2.1.toNat) (items, q, tq) (by k_asm) (by k_asm) trivial ?_ ?_ ?_
  · intro x hx
    simp only [List.mem_singleton] at hx
    subst hx
    with_unfolding_all rfl
  · exact ⟨rfl, hp, Int.le_trans hst hsq, Int.le_refl _, rfl⟩
  · rintro ⟨its, r, tr⟩ u h tk _ ⟨hl, hp', h1, h2, hgo⟩ F1 N1
    dsimp only at hl hp' h1 h2 hgo F1 N1
    (try k_fold)
    walk_at "MINE go"
    · refine Stop.o ?_
      rename ltP _ _ = true => hlt
      have e : ((r - 1) / 2).toNat = (r.toNat - 1) / 2 := by omega
      rename News _ _ _ _ => nE
      rename Fr _ _ _ _ => fE
      refine' ksw_end (its.set r.toNat (its.getD ((r - 1) / 2).toNat Value.none), (r - 1) / 2, _) fE nE (fun _ h => h) trivial ?zk ?zr ?zp ?zm
      case zk =>
        intro x hx
        simp only [List.mem_singleton] at hx
        subst hx
        with_unfolding_all rfl
      case zr =>
        intro z h2 h3
        simp only [List.forall_mem_cons, List.not_mem_nil, false_implies, implies_true, and_true, ne_eq] at h2
        simp only [List.contains_cons, List.contains_nil, Bool.or_false, Bool.or_eq_false_iff, beq_eq_false_iff_ne, ne_eq] at h3
        simp [h2, h3, kstB]
      case zp =>
        refine ⟨by simpa using hl, isP_set hp' (hp' _ (getD_mem (by omega) (by omega))), by dsimp only; omega, by dsimp only; omega, ?_⟩
        dsimp only
        rw [← hgo, e]
        exact (sdGo_up (by omega) (by rw [← e]; exact hlt)).symm
      case zm => dsimp only; omega
    · rename ltP _ _ = false => hlt
      have e : ((r - 1) / 2).toNat = (r.toNat - 1) / 2 := by omega
      rw [sdGo_stay (by rw [← e]; exact hlt)] at hgo
      exact ret _ _ (by k_asm) (by rw [← hgo]; k_asm)
    · rw [sdGo_end (by omega)] at hgo
      exact ret _ _ (by k_asm) (by rw [← hgo]; k_asm)
end
end Mine
end
section
open PySem PySem.Calls PySem.W PyProof.Rows
set_option Elab.async false
set_option maxRecDepth 100000
set_option maxHeartbeats 4000000
namespace Mine
theorem fillDummySu (w : World) (h : Heap) (_ : PySem.Challenge.rw_pm0017_01.Holds → (hd.heap_39 w.params).In h) : True := by
  have z : PySem.Challenge.rw_pm0017_01.Holds → (hd.heap_39 w.params).In h → True := by
    k_fill
    w_top off
    intro _ _; trivial
  trivial
section
variable {prog : Program} {w : World} {p : Program} {loose : List Str} {mean : ExcName → Option Value} {mg mb : Str → Option Value}
  {dp un : Nat} {gd : Option (List Code)} {cn : Str} {cs : Scope} {a : Addr} {ccd : Value} {cl : List (Str × Addr)} {outer : List Env} {A₀ : Around} {base h₀ : Heap} {L : Addr} {m : Str → Option Value} {s : Shared}
  {Q E : Value → Shared → Prop} {H : Addr} {n : Nat} {tl : List (Addr × Obj)}
local macro_rules | `(tactic| walk_at "MINE none 4") => `(tactic| skip)
local macro_rules | `(tactic| walk_at "subscriptTail") => `(tactic| (k_here; (with_reducible show wpAny _ _ (subscriptTail _ _ (Value.ref _) (Value.int _ _)) _ _ _); k_dflt (refine' get_V ?k1 ?k2 ?k3 ?k4 ?k5 ?_ ?k6; (case k1 => k_asm); (case k2 => k_mem); (case k3 => omega); (case k4 => omega); (case k5 => omega); (case k6 => with_unfolding_all rfl); k_whole)))
local macro_rules | `(tactic| walk_at "MINE go") => `(tactic| repeat' ((fail_if_success (with_reducible show Stop _)); (first | (k_unfold; (try dsimp only)) | (k_end; wrow_close) | walk1 | (dsimp only; walk1) | (leave1; walk_say "STEP leave1"; try dsimp only) | fail "no step")))
local macro_rules | `(tactic| walk_at "exec While Compare cons nil") => `(tactic| refine Stop.i ?_)
local macro_rules | `(tactic| walk_at "KswEnd") => `(tactic| refine Stop.i ?_)
local macro_rules | `(tactic| walk_at "call ref") => `(tactic| refine Stop.i ?_)
local macro_rules | `(tactic| walk_at "compareOp Lt") => `(tactic| (k_here; k_dflt (refine' lt_V ?k1 ?k2 ?k3 ?k4 ?_; (case k1 => k_asm); (case k2 => (refine isP_at (by assumption) ?_ ?_ <;> omega)); (case k3 => (refine isP_at (by assumption) ?_ ?_ <;> omega)); (case k4 => ktr_units); k_whole)))
local macro_rules | `(tactic| walk_at "setItem ref int") => `(tactic| (k_here; (with_reducible show wpAny _ _ (setItem (Value.ref _) (Value.int _ _) _) _ _ _); k_dflt (refine' set_V ?k1 ?k2 ?k3 ?k4 ?k5 ?k6 ?_; (case k1 => k_asm); (case k2 => k_asm); (case k3 => assumption); (case k4 => omega); (case k5 => omega); (case k6 => omega); k_whole); intro h' F' N'; (try k_sweep)))
local macro_rules | `(tactic| walk_at "binaryOp RShift int int") => `(tactic| (refine shr1 ?_))
local macro_rules | `(tactic| walk_at "call builtin:len") => `(tactic| (k_here; (with_reducible show wpAny _ _ (call (Value.builtin _) [Value.ref _]) _ _ _); k_dflt (refine' len_V ?k1 ?k2 ?k3 ?_; (case k1 => k_asm); (case k2 => k_mem); (case k3 => omega); k_whole)))
local macro_rules | `(tactic| walk_at "truthy ref") => `(tactic| (k_here; (with_reducible show wpAny _ _ (truthy (Value.ref _)) _ _ _); k_dflt (refine' truthy_V ?k1 ?k2 ?k3 ?_; (case k1 => k_asm); (case k2 => k_mem); (case k3 => omega); k_whole)))
local macro_rules | `(tactic| walk_at "call builtin:list.pop") => `(tactic| (k_here; (with_reducible show wpAny _ _ (call (Value.builtin _) [Value.ref _]) _ _ _); k_dflt (refine' pop_V ?k1 ?k2 ?k3 ?k4 ?k5 ?_; (case k1 => k_asm); (case k2 => k_asm); (case k3 => assumption); (case k4 => omega); (case k5 => omega); k_whole); intro h' F' N'; (try k_sweep)))
local macro_rules | `(tactic| walk_at "call builtin:list.append") => `(tactic| (k_here; (with_reducible show wpAny _ _ (call (Value.builtin _) [Value.ref _, _]) _ _ _); k_dflt (refine' append_V ?k1 ?k2 ?k3 ?k4 ?_; (case k1 => k_asm); (case k2 => k_asm); (case k3 => assumption); (case k4 => omega); k_whole); intro h' F' N'; (try k_sweep)))
local macro_rules | `(tactic| walk_at "InvEndN") => `(tactic| refine Stop.i ?_)
theorem siftup_call {items : List Value} {key : Value → Int × Int} {q : Int} {tq : Tok}
    (B : Below A₀ base outer h₀) (F : Fr h₀ L s.heap m) (X : (hd.heap_39 w.params).In h₀) (N : News h₀ L s.heap ((H, listOf items.toArray n) :: tl)) (T : Top p loose mean mg mb h₀) (hk : cs.kind = .function)
    (hH : ∀ e ∈ tl, e.1 ≠ H) (hp : ∀ v ∈ items, IsP tl key v) (hq0 : 0 ≤ q) (hq : q < items.length) (hlen : items.length ≤ 1000) (hd' : dp + 20 < recursionLimit) (hu : un + 200 < cLine)
    (ret : ∀ h' tk', Fr h₀ L h' m → News h₀ L h' ((H, listOf (su (ltK key) .none items q.toNat).toArray n) :: tl) → Q .none { s with heap := h', toks := tk' }) :
    wpAny (model prog w) (ktrTop dp un gd cn cs L a ccd cl outer) (call (.ref 56) [.ref H, .int q tq]) Q E s := by
  refine wpAny_call ?_
  k_dflt ktr_enter
  walk_at "MINE go"
  refine Stop.o ?_
  refine' ksw_while (σ := List Value × Int × Tok × Tok) (fun c => (H, listOf c.1.toArray n) :: tl) (fun c => [(Str.ofString "pos", .int c.2.1 c.2.2.1), (Str.ofString "childpos", .int (2 * c.2.1 + 1) c.2.2.2)]) (fun _ => True) [Str.ofString "rightpos"]
    (fun c => c.1.length = items.length ∧ (∀ v ∈ c.1, IsP tl key v) ∧ q ≤ c.2.1 ∧ c.2.1 < items.length ∧ suGo (ltK key) .none items.length c.1 c.2.1.toNat = suGo (ltK key) .none items.length items q.toNat) (fun c => (items.length - c.2.1).toNat) (items, q, tq, _) (by k_asm) (by k_asm) trivial ?zk ?zp ?zt
  case zk =>
    intro x hx
    simp only [List.mem_cons, List.not_mem_nil, or_false] at hx
    rcases hx with rfl | rfl <;> with_unfolding_all rfl
  case zp => exact ⟨rfl, hp, Int.le_refl _, hq, rfl⟩
  case zt =>
    rintro ⟨its, r, tr, tc⟩ u h tk _ ⟨hl, hp', h1, h2, hgo⟩ F1 N1
    dsimp only at hl hp' h1 h2 hgo F1 N1
    (try k_fold)
    walk_at "MINE go"
    · refine Stop.o ?_
      rename News _ _ _ _ => nE
      rename Fr _ _ _ _ => fE
      rename ltP _ _ = true => hlt
      have hc : child (ltK key) Value.none its items.length (2 * r.toNat + 1) = (2 * r + 1).toNat := by
        have e1 : (2 * r + 1).toNat = 2 * r.toNat + 1 := by omega
        have e2 : (2 * r + 1 + 1).toNat = 2 * r.toNat + 1 + 1 := by omega
        rw [e1, e2] at hlt
        unfold child ltK
        rw [hlt, e1]
        simp
      refine' ksw_end (its.set r.toNat (its.getD (2 * r + 1).toNat Value.none), 2 * r + 1, _, _) fE nE (fun _ h => h) trivial ?zk ?zr ?zp ?zm
      case zk =>
        intro x hx
        simp only [List.mem_cons, List.not_mem_nil, or_false] at hx
        rcases hx with rfl | rfl <;> with_unfolding_all rfl
      case zr =>
        intro z h2 h3
        simp only [List.forall_mem_cons, List.not_mem_nil, false_implies, implies_true, and_true, ne_eq] at h2
        simp only [List.contains_cons, List.contains_nil, Bool.or_false, Bool.or_eq_false_iff, beq_eq_false_iff_ne, ne_eq] at h3
        simp [h2, h3, kstB]
      case zp =>
        refine ⟨by simpa using hl, isP_set hp' (hp' _ (getD_mem (by omega) (by omega))), by dsimp only; omega, by dsimp only; omega, ?_⟩
        dsimp only
        rw [← hgo, suGo_down (show 2 * r.toNat + 1 < items.length by omega), hc]
      case zm => dsimp only; omega
    · refine Stop.o ?_
      rename News _ _ _ _ => nE
      rename Fr _ _ _ _ => fE
      rename ltP _ _ = false => hlt
      have hc : child (ltK key) Value.none its items.length (2 * r.toNat + 1) = (2 * r + 1 + 1).toNat := by
        have e1 : (2 * r + 1).toNat = 2 * r.toNat + 1 := by omega
        have e2 : (2 * r + 1 + 1).toNat = 2 * r.toNat + 1 + 1 := by omega
        rw [e1, e2] at hlt
        unfold child ltK
        rw [hlt, e2]
        simp
        omega
      refine' ksw_end (its.set r.toNat (its.getD (2 * r + 1 + 1).toNat Value.none), 2 * r + 1 + 1, _, _) fE nE (fun _ h => h) trivial ?zk ?zr ?zp ?zm
      case zk =>
        intro x hx
        simp only [List.mem_cons, List.not_mem_nil, or_false] at hx
        rcases hx with rfl | rfl <;> with_unfolding_all rfl
      case zr =>
        intro z h2 h3
        simp only [List.forall_mem_cons, List.not_mem_nil, false_implies, implies_true, and_true, ne_eq] at h2
        simp only [List.contains_cons, List.contains_nil, Bool.or_false, Bool.or_eq_false_iff, beq_eq_false_iff_ne, ne_eq] at h3
        simp [h2, h3, kstB]
      case zp =>
        refine ⟨by simpa using hl, isP_set hp' (hp' _ (getD_mem (by omega) (by omega))), by dsimp only; omega, by dsimp only; omega, ?_⟩
        dsimp only
        rw [← hgo, suGo_down (show 2 * r.toNat + 1 < items.length by omega), hc]
      case zm => dsimp only; omega
    · refine Stop.o ?_
      rename News _ _ _ _ => nE
      rename Fr _ _ _ _ => fE
      have hc : child (ltK key) Value.none its items.length (2 * r.toNat + 1) = (2 * r + 1).toNat := by
        have e1 : (2 * r + 1).toNat = 2 * r.toNat + 1 := by omega
        have e3 : decide (2 * r.toNat + 1 + 1 < items.length) = false := by simp; omega
        unfold child
        rw [e3, e1]
        simp
      refine' ksw_end (its.set r.toNat (its.getD (2 * r + 1).toNat Value.none), 2 * r + 1, _, _) fE nE (fun _ h => h) trivial ?zk ?zr ?zp ?zm
      case zk =>
        intro x hx
        simp only [List.mem_cons, List.not_mem_nil, or_false] at hx
        rcases hx with rfl | rfl <;> with_unfolding_all rfl
      case zr =>
        intro z h2 h3
        simp only [List.forall_mem_cons, List.not_mem_nil, false_implies, implies_true, and_true, ne_eq] at h2
        simp only [List.contains_cons, List.contains_nil, Bool.or_false, Bool.or_eq_false_iff, beq_eq_false_iff_ne, ne_eq] at h3
        simp [h2, h3, kstB]
      case zp =>
        refine ⟨by simpa using hl, isP_set hp' (hp' _ (getD_mem (by omega) (by omega))), by dsimp only; omega, by dsimp only; omega, ?_⟩
        dsimp only
        rw [← hgo, suGo_down (show 2 * r.toNat + 1 < items.length by omega), hc]
      case zm => dsimp only; omega
    · refine Stop.o ?_
      rename News _ _ _ _ => nE
      have hr : suGo (ltK key) Value.none items.length items q.toNat = (its, r.toNat) := by rw [← hgo, suGo_end (by omega)]
      have hl' : (its.set r.toNat (items.getD q.toNat Value.none)).length = items.length := by rw [List.length_set]; exact hl
      refine siftdown_call (by k_asm) (by k_asm) (by k_asm) nE (by k_asm) rfl hH (isP_set hp' (hp _ (getD_mem hq0 hq))) hq0 h1 (by rw [hl']; exact h2) (by rw [hl']; exact hlen) (by show dp + 1 + 10 < recursionLimit; omega) (by show un + 3 + 100 < cLine; omega) ?_
      intro h' tk' F' N'
      walk_at "MINE go"
      refine ret _ _ (by k_asm) ?_
      have e : su (ltK key) .none items q.toNat = sd (ltK key) Value.none (its.set r.toNat (items.getD q.toNat Value.none)) q.toNat r.toNat := by
        unfold su; rw [hr]
      rw [e]
      k_asm
end
end Mine
end
section
open PySem PySem.Calls PySem.W PyProof.Rows
set_option Elab.async false
set_option maxRecDepth 100000
set_option maxHeartbeats 4000000
namespace Mine
theorem fillDummyHp (w : World) (h : Heap) (_ : PySem.Challenge.rw_pm0017_01.Holds → (hd.heap_39 w.params).In h) : True := by
  have z : PySem.Challenge.rw_pm0017_01.Holds → (hd.heap_39 w.params).In h → True := by
    k_fill
    w_top off
    intro _ _; trivial
  trivial
section
variable {prog : Program} {w : World} {p : Program} {loose : List Str} {mean : ExcName → Option Value} {mg mb : Str → Option Value}
  {dp un : Nat} {gd : Option (List Code)} {cn : Str} {cs : Scope} {a : Addr} {ccd : Value} {cl : List (Str × Addr)} {outer : List Env} {A₀ : Around} {base h₀ : Heap} {L : Addr} {m : Str → Option Value} {s : Shared}
  {Q E : Value → Shared → Prop} {H : Addr} {n : Nat} {tl : List (Addr × Obj)}
local macro_rules | `(tactic| walk_at "subscriptTail") => `(tactic| (k_here; (with_reducible show wpAny _ _ (subscriptTail _ _ (Value.ref _) (Value.int _ _)) _ _ _); k_dflt (refine' get_V ?k1 ?k2 ?k3 ?k4 ?k5 ?_ ?k6; (case k1 => k_asm); (case k2 => k_mem); (case k3 => omega); (case k4 => omega); (case k5 => omega); (case k6 => with_unfolding_all rfl); k_whole)))
local macro_rules | `(tactic| walk_at "MINE go") => `(tactic| repeat' ((fail_if_success (with_reducible show Stop _)); (first | (k_unfold; (try dsimp only)) | (k_end; wrow_close) | walk1 | (dsimp only; walk1) | (leave1; walk_say "STEP leave1"; try dsimp only) | fail "no step")))
local macro_rules | `(tactic| walk_at "exec While Compare cons nil") => `(tactic| refine Stop.i ?_)
local macro_rules | `(tactic| walk_at "KswEnd") => `(tactic| refine Stop.i ?_)
local macro_rules | `(tactic| walk_at "call ref") => `(tactic| refine Stop.i ?_)
local macro_rules | `(tactic| walk_at "compareOp Lt") => `(tactic| (k_here; k_dflt (refine' lt_V ?k1 ?k2 ?k3 ?k4 ?_; (case k1 => k_asm); (case k2 => (refine isP_at (by assumption) ?_ ?_ <;> omega)); (case k3 => (refine isP_at (by assumption) ?_ ?_ <;> omega)); (case k4 => ktr_units); k_whole)))
local macro_rules | `(tactic| walk_at "setItem ref int") => `(tactic| (k_here; (with_reducible show wpAny _ _ (setItem (Value.ref _) (Value.int _ _) _) _ _ _); k_dflt (refine' set_V ?k1 ?k2 ?k3 ?k4 ?k5 ?k6 ?_; (case k1 => k_asm); (case k2 => k_asm); (case k3 => assumption); (case k4 => omega); (case k5 => omega); (case k6 => omega); k_whole); intro h' F' N'; (try k_sweep)))
local macro_rules | `(tactic| walk_at "binaryOp RShift int int") => `(tactic| (refine shr1 ?_))
local macro_rules | `(tactic| walk_at "call builtin:len") => `(tactic| (k_here; (with_reducible show wpAny _ _ (call (Value.builtin _) [Value.ref _]) _ _ _); k_dflt (refine' len_V ?k1 ?k2 ?k3 ?_; (case k1 => k_asm); (case k2 => k_mem); (case k3 => omega); k_whole)))
local macro_rules | `(tactic| walk_at "truthy ref") => `(tactic| (k_here; (with_reducible show wpAny _ _ (truthy (Value.ref _)) _ _ _); k_dflt (refine' truthy_V ?k1 ?k2 ?k3 ?_; (case k1 => k_asm); (case k2 => k_mem); (case k3 => omega); k_whole)))
local macro_rules | `(tactic| walk_at "call builtin:list.pop") => `(tactic| (k_here; (with_reducible show wpAny _ _ (call (Value.builtin _) [Value.ref _]) _ _ _); k_dflt (refine' pop_V ?k1 ?k2 ?k3 ?k4 ?k5 ?_; (case k1 => k_asm); (case k2 => k_asm); (case k3 => assumption); (case k4 => omega); (case k5 => omega); k_whole); intro h' F' N'; (try k_sweep)))
local macro_rules | `(tactic| walk_at "call builtin:list.append") => `(tactic| (k_here; (with_reducible show wpAny _ _ (call (Value.builtin _) [Value.ref _, _]) _ _ _); k_dflt (refine' append_V ?k1 ?k2 ?k3 ?k4 ?_; (case k1 => k_asm); (case k2 => k_asm); (case k3 => assumption); (case k4 => omega); k_whole); intro h' F' N'; (try k_sweep)))
local macro_rules | `(tactic| walk_at "InvEndN") => `(tactic| refine Stop.i ?_)
theorem heappush_call {items : List Value} {key : Value → Int × Int} {v : Value}
    (B : Below A₀ base outer h₀) (F : Fr h₀ L s.heap m) (X : (hd.heap_39 w.params).In h₀) (N : News h₀ L s.heap ((H, listOf items.toArray n) :: tl)) (T : Top p loose mean mg mb h₀) (hk : cs.kind = .function)
    (hH : ∀ e ∈ tl, e.1 ≠ H) (hp : ∀ v ∈ items, IsP tl key v) (hv : IsP tl key v) (hlen : items.length ≤ 900) (hd' : dp + 20 < recursionLimit) (hu : un + 200 < cLine)
    (ret : ∀ h' tk', Fr h₀ L h' m → News h₀ L h' ((H, listOf (hpush (ltK key) .none items v).toArray (n + 1)) :: tl) → Q .none { s with heap := h', toks := tk' }) :
    wpAny (model prog w) (ktrTop dp un gd cn cs L a ccd cl outer) (call (.ref 21) [.ref H, v]) Q E s := by
  have hlen1 : (items ++ [v]).length = items.length + 1 := by simp
  refine wpAny_call ?_
  k_dflt ktr_enter
  walk_at "MINE go"
  refine Stop.o ?_
  rename News _ _ _ _ => nE
  have e : (((items ++ [v]).length : Int) - 1).toNat = items.length := by omega
  have hp1 : ∀ u ∈ items ++ [v], IsP tl key u := fun u hu => by
    rcases List.mem_append.mp hu with h | h
    · exact hp u h
    · exact List.mem_singleton.mp h ▸ hv
  refine siftdown_call (by k_asm) (by k_asm) (by k_asm) nE (by k_asm) rfl hH hp1 (Int.le_refl _) (by omega) (by omega) (by omega) (by show dp + 1 + 10 < recursionLimit; omega) (by show un + 3 + 100 < cLine; omega) ?_
  intro h' tk' F' N'
  rw [e] at N'
  walk_at "MINE go"
  exact ret _ _ (by k_asm) (by k_asm)

theorem heappop_call {items : List Value} {key : Value → Int × Int}
    (B : Below A₀ base outer h₀) (F : Fr h₀ L s.heap m) (X : (hd.heap_39 w.params).In h₀) (N : News h₀ L s.heap ((H, listOf items.toArray n) :: tl)) (T : Top p loose mean mg mb h₀) (hk : cs.kind = .function)
    (hH : ∀ e ∈ tl, e.1 ≠ H) (hp : ∀ v ∈ items, IsP tl key v) (hne : 0 < items.length) (hlen : items.length ≤ 900) (hd' : dp + 30 < recursionLimit) (hu : un + 300 < cLine)
    (ret : ∀ h' tk', Fr h₀ L h' m → News h₀ L h' ((H, listOf (hpop (ltK key) .none items).2.toArray (n + 1)) :: tl) → Q (hpop (ltK key) .none items).1 { s with heap := h', toks := tk' }) :
    wpAny (model prog w) (ktrTop dp un gd cn cs L a ccd cl outer) (call (.ref 28) [.ref H]) Q E s := by
  have hlen2 : items.dropLast.length = items.length - 1 := List.length_dropLast
  refine wpAny_call ?_
  k_dflt ktr_enter
  walk_at "MINE go"
  · refine Stop.o ?_
    rename News _ _ _ _ => nE
    rename 0 < items.dropLast.length => hne2
    have hp1 : ∀ u ∈ items.dropLast, IsP tl key u := fun u hu => hp u (List.dropLast_subset _ hu)
    have hpl : IsP tl key (items.getLastD .none) := by
      have h0 : items ≠ [] := by intro e; rw [e] at hne; exact absurd hne (Nat.lt_irrefl 0)
      rw [List.getLastD_eq_getLast?, List.getLast?_eq_some_getLast h0]
      exact hp _ (List.getLast_mem h0)
    refine siftup_call (by k_asm) (by k_asm) (by k_asm) nE (by k_asm) rfl hH (isP_set hp1 hpl) (Int.le_refl _) (by rw [List.length_set]; omega) (by rw [List.length_set]; omega) (by show dp + 1 + 20 < recursionLimit; omega) (by show un + 3 + 200 < cLine; omega) ?_
    intro h' tk' F' N'
    walk_at "MINE go"
    have e : hpop (ltK key) .none items = (items.dropLast.getD 0 .none, su (ltK key) .none (items.dropLast.set 0 (items.getLastD .none)) 0) := by
      unfold hpop
      rw [if_neg (by intro e; rw [e] at hne2; exact absurd hne2 (Nat.lt_irrefl 0))]
    rw [e] at ret
    exact ret _ _ (by k_asm) (by k_asm)
  · have e : hpop (ltK key) .none items = (items.getLastD .none, []) := by
      unfold hpop
      rw [if_pos (by apply List.eq_nil_of_length_eq_zero; omega)]
    have e2 : items.dropLast = [] := by apply List.eq_nil_of_length_eq_zero; omega
    rw [e] at ret
    rename News h₀ _ _ _ => nE
    rw [e2] at nE
    exact ret _ _ (by k_asm) (by k_asm)

theorem heapreplace_call {items : List Value} {key : Value → Int × Int} {v : Value}
    (B : Below A₀ base outer h₀) (F : Fr h₀ L s.heap m) (X : (hd.heap_39 w.params).In h₀) (N : News h₀ L s.heap ((H, listOf items.toArray n) :: tl)) (T : Top p loose mean mg mb h₀) (hk : cs.kind = .function)
    (hH : ∀ e ∈ tl, e.1 ≠ H) (hp : ∀ v ∈ items, IsP tl key v) (hv : IsP tl key v) (hne : 0 < items.length) (hlen : items.length ≤ 900) (hd' : dp + 30 < recursionLimit) (hu : un + 300 < cLine)
    (ret : ∀ h' tk', Fr h₀ L h' m → News h₀ L h' ((H, listOf (hrepl (ltK key) .none items v).2.toArray n) :: tl) → Q (hrepl (ltK key) .none items v).1 { s with heap := h', toks := tk' }) :
    wpAny (model prog w) (ktrTop dp un gd cn cs L a ccd cl outer) (call (.ref 35) [.ref H, v]) Q E s := by
  refine wpAny_call ?_
  k_dflt ktr_enter
  walk_at "MINE go"
  refine Stop.o ?_
  rename News _ _ _ _ => nE
  refine siftup_call (by k_asm) (by k_asm) (by k_asm) nE (by k_asm) rfl hH (isP_set hp hv) (Int.le_refl _) (by rw [List.length_set]; omega) (by rw [List.length_set]; omega) (by show dp + 1 + 20 < recursionLimit; omega) (by show un + 3 + 200 < cLine; omega) ?_
  intro h' tk' F' N'
  walk_at "MINE go"
  exact ret _ _ (by k_asm) (by k_asm)
end
end Mine
end
section
open PySem PySem.Calls PySem.W PyProof.Rows
set_option Elab.async false
set_option maxRecDepth 100000
set_option maxHeartbeats 4000000
namespace Mine
abbrev ritObj (x left step : Int) : Obj := { cls := .type "range_iterator", data := .fields #[rawInt x, rawInt left, rawInt step] }

theorem rangeSize_up (k : Int) (hk : 0 ≤ k) : Builtin.Range.rangeSize 0 k 1 = k := by
  unfold Builtin.Range.rangeSize
  simp only [show (1 : Int) > 0 by decide, if_true]
  split <;> omega

theorem range_rev_meets (r : Addr) (k : Int) (t u v : Tok) (hk : 0 ≤ k) (hk' : k < 2 ^ 40) :
    Meets (Builtin.«range.__reversed__» ⟨[.ref r], []⟩) (fun _ R s => s.heap.get? r = some { cls := .type "range", dict := none, data := .fields #[.int 0 t, .int k u, .int 1 v], slots := #[] } ∧ R (.ok (.ret (Value.ref s.heap.objs.size))) { s with heap := s.heap.push (ritObj (0 + (Builtin.Range.rangeSize 0 k 1 - 1) * 1) (Builtin.Range.rangeSize 0 k 1) (-1)), toks := s.toks }) := by
  have hs := rangeSize_up k hk
  have h1 : (Builtin.Range.rangeFitsLong 0 && Builtin.Range.rangeFitsLong k && Builtin.Range.rangeFitsLong 1 && Builtin.Range.rangeFitsLong (-1) && Builtin.Range.rangeFitsLong (0 - 1) && Builtin.Range.rangeFitsLong (Builtin.Range.rangeSize 0 k 1)) = true := by
    rw [hs]
    simp only [Builtin.Range.rangeFitsLong, Bool.and_eq_true, decide_eq_true_eq]
    omega
  refine .of_wp fun prog w A R s h => ?_
  obtain ⟨hp, g, d, tk, os⟩ := s
  obtain ⟨hl, h⟩ := h
  unfold Builtin.«range.__reversed__»
  refine wpAny_bind (wpAny_of_eq (a := Value.ref r) rfl ?_)
  unfold Builtin.Range.rangeFields
  refine wpAny_bind (wpAny_bind (wpAny_field hl rfl (x := .int 0 t) rfl ?_))
  refine wpAny_bind (wpAny_of_eq (a := some 0) rfl ?_)
  refine wpAny_bind (wpAny_field hl rfl (x := .int k u) rfl ?_)
  refine wpAny_bind (wpAny_of_eq (a := some k) rfl ?_)
  refine wpAny_bind (wpAny_field hl rfl (x := .int 1 v) rfl ?_)
  refine wpAny_bind (wpAny_of_eq (a := some 1) rfl (wpAny_pure ?_))
  dsimp only
  simp only [h1, Bool.not_true, Bool.false_eq_true, if_false, if_true]
  first
  | exact wpAny_bind (wpAny_newObj_type (wpAny_pure ⟨_, rfl, h⟩))
  | exact wpAny_bind (wpAny_pure (wpAny_bind (wpAny_newObj_type (wpAny_pure ⟨_, rfl, h⟩))))

section
variable {prog : Program} {w : World} {A : Around} {E : Value → Shared → Prop} {s : Shared}
theorem code_reversed_range {r : Addr} {k : Int} {t u v : Tok} {Q₁ : Value → Shared → Prop} (hr : IsRange s.heap r 0 k 1 t u v) (hk : 0 ≤ k) (hk' : k < 2 ^ 40)
    (h : Q₁ (.ref s.heap.objs.size) { s with heap := s.heap.push (ritObj (k - 1) k (-1)) }) :
    codeAny (model prog w) A (.call (.builtin "reversed.__new__") ⟨[.type "reversed", .ref r], []⟩) (wants Q₁ E) s := by
  have hT : s.TypeIs (.ref r) "range" := ⟨_, hr, rfl⟩
  refine codeAny_of_tree ?_
  show wpAny _ A.in1 (do checkBuiltinCall "reversed.__new__" ⟨[.type "reversed", .ref r], []⟩; again (.builtin "reversed.__new__" ⟨[.type "reversed", .ref r], []⟩)) _ _ s
  refine wpAny_bind (wpAny_of_eq (F.newCall_reversed_1 _) (wpAny_pure ⟨plainId_quiet F.plain_reversed_new _, codeAny_builtin F.entry_reversed_new ?_⟩))
  rw [Around.under_plainId F.plain_reversed_new _]
  unfold Builtin.«reversed.__new__»
  refine wpAny_bind (wpAny_of_eq (newClass_reversed _) ?_)
  try dsimp only
  refine wpAny_bind (wpAny_of_eq (a := ()) (by first | rfl | kernel_rfl) ?_)
  refine wpAny_bind (wpAny_of_eq (a := ()) (by first | rfl | kernel_rfl) ?_)
  try dsimp only
  refine wpAny_bind (wpAny_specialOf hT F.slot_range_reversed.lookup ?_)
  try dsimp only
  refine wpAny_bind (wpAny_of_eq (F.slot_range_reversed.bind _) ?_)
  try dsimp only
  rw [if_neg (show ¬ ((Value.builtin "range.__reversed__" == Value.none) = true) from Bool.false_ne_true)]
  refine wpAny_bind (wpAny_rule ?_)
  have e1 : (0 : Int) + (Builtin.Range.rangeSize 0 k 1 - 1) * 1 = k - 1 := by rw [rangeSize_up k hk]; omega
  have e2 := rangeSize_up k hk
  refine wpAny_bind (m := runValue (.call (.builtin "range.__reversed__") ⟨[.ref r], []⟩)) (show wpAny _ _ (call (.builtin "range.__reversed__") [.ref r]) _ _ _ from
    call_meets F.slot_range_reversed hT F.entry_range_reversed (F.args_range_reversed_1 _) (range_rev_meets r k t u v hk hk') ⟨hr, ?_⟩)
  rw [e1, e2]
  first
  | exact wpAny_pure h
  | exact wpAny_bind (wpAny_pure (wpAny_pure h))

theorem sub_ri_reversed : isSubtype (.type "range_iterator") (.type "reversed") = pure false := by rw [isSubtype_type]; kernel_rfl

theorem call_reversed_range {r : Addr} {k : Int} {t u v : Tok} {Q : Value → Shared → Prop} (hr : IsRange s.heap r 0 k 1 t u v) (hk : 0 ≤ k) (hk' : k < 2 ^ 40)
    (h : Q (.ref s.heap.objs.size) { s with heap := s.heap.push (ritObj (k - 1) k (-1)) }) : wpAny (model prog w) A (call (.type "reversed") [.ref r]) Q E s := by
  refine callType_other (U := "range_iterator") (Q₁ := fun obj s₁ => obj = .ref s.heap.objs.size ∧ s₁ = { s with heap := s.heap.push (ritObj (k - 1) k (-1)) }) (by decide +kernel) F.create_reversed ⟨_, _, F.mro_reversed⟩ F.made_reversed sub_ri_reversed (F.typeCall_reversed_1 _) (code_reversed_range hr hk hk' ⟨rfl, rfl⟩) ?_
  rintro obj s₁ ⟨rfl, rfl⟩
  exact ⟨⟨_, Heap.get?_push_size _ rfl, rfl⟩, h⟩

theorem reversed_K {h₀ : Heap} {L : Addr} {m : Str → Option Value} {news : List (Addr × Obj)} {r : Addr} {k : Int} {t u v : Tok} {Q : Value → Shared → Prop} (F : Fr h₀ L s.heap m) (N : News h₀ L s.heap news) (hr : IsRange s.heap r 0 k 1 t u v) (hk : 0 ≤ k) (hk' : k < 2 ^ 40)
    (h : ∀ D h', Fr h₀ L h' m → News h₀ L h' ((D, ritObj (k - 1) k (-1)) :: news) → (∀ p ∈ news, p.1 < D) → Q (.ref D) { s with heap := h' }) : wpAny (model prog w) A (call (.type "reversed") [.ref r]) Q E s :=
  call_reversed_range hr hk hk' (h _ _ (F.push _) (News.push F N _) fun p hp => Heap.lt_size (N p hp).1)
end

section
variable {prog : Program} {w : World} {A : Around} {E : Value → Shared → Prop} {s : Shared} {env : Env} {h₀ : Heap} {x : Str} {body : List Stmt} {Q : Flow → Shared → Prop}
theorem rev_loop {σ : Type} {I : Addr} {k : Nat} {m₀ : Str → Option Value} (Led : σ → List (Addr × Obj)) (ps : σ → List (Str × Value)) (Facts : σ → Prop) (stored : List Str) (P : List Int → σ → Prop) (c₀ : σ)
    (hh : A.handled = none) (F : Fr h₀ env.locals s.heap m₀) (N : News h₀ env.locals s.heap ((I, ritObj ((k : Int) - 1) k (-1)) :: Led c₀)) (hoff : ∀ p ∈ Led c₀, p.1 ≠ I) (hf : Facts c₀) (hk : ∀ p ∈ ps c₀, m₀ p.1 = some p.2) (hp : P [] c₀)
    (turn : ∀ (c : σ) (pre : List Int) (j : Int) t (u : Str → Option Value) h tk own, j = (k : Int) - 1 - (pre.length : Int) → pre.length < k → OwnOff own ((Led c₀).map (·.1)) → Facts c → P pre c →
      Fr h₀ env.locals h (fun y => if y = x then some (.int j t) else kstB (fun z => if stored.contains z then u z else m₀ z) (ps c) y) → News h₀ env.locals h (Led c ++ own) →
      wpAny (model prog w) A (execs body env) (InvPostN h₀ env.locals (KstS Led ps Facts x stored m₀ P (pre ++ [j])) own ((Led c₀).map (·.1)) { s with heap := h, toks := tk } Q) E { s with heap := h, toks := tk })
    (done : ∀ (c : σ) (u : Str → Option Value) h tk, Facts c → P (downKs ((k : Int) - 1) k) c → Fr h₀ env.locals h (fun y => if y = x then u y else kstB (fun z => if stored.contains z then u z else m₀ z) (ps c) y) → News h₀ env.locals h (Led c) → Q .next { s with heap := h, toks := tk }) :
    wpAny (model prog w) A (pyIter (.ref I)) (fun it s₂ => LoopAtV prog w A h₀ env x body Q E it s₂) E s := by
  have W : Walks prog w A I [I] [I] k (fun i v => i < k ∧ ∃ t, v = .int (((k : Int) - 1) + i * (-1)) t)
      (fun i h => IsRangeIter h I (((k : Int) - 1) + (i : Nat) * (-1)) ((k : Int) - (i : Nat)) (-1)) := (Walks.range hh _ ((k : Int) - 1) (-1) k).bound
  have hI := N _ (.head _)
  have hst0 : IsRangeIter s.heap I (((k : Int) - 1) + ((0 : Nat) : Int) * (-1)) ((k : Int) - ((0 : Nat) : Int)) (-1) := by simpa using hI.1
  refine W.self 0 _ _ _ hst0 ?_
  refine loop_invN (fun i m nx => KstS Led ps Facts x stored m₀ P ((downKs ((k : Int) - 1) k).take i) m nx) W ?_ ?_ ?_ ?_ hst0 F (fun p hp => N p (.tail _ hp)) ⟨c₀, rfl, hf, hk, fun _ _ _ _ => rfl, by simpa using hp⟩ ?_ ?_
  · intro hm
    exact hI.2.1 (List.mem_singleton.mp hm).symm
  · intro b hb
    rw [List.mem_singleton.mp hb]
    exact hI.2.2
  · intro p hp hI'
    exact hoff p hp (List.mem_singleton.mp hI')
  · intro p hp hI'
    exact hoff p hp (List.mem_singleton.mp hI')
  · rintro i v m₁ nx h tk own hi ⟨_, t, rfl⟩ _ hoff' ⟨c, rfl, hf', h1, h2, hp'⟩ F₁ N₁
    have e1 : ((k : Int) - 1) + (i : Int) * (-1) = ((k : Int) - 1) - (i : Int) := by omega
    rw [e1] at F₁
    have hk' : (downKs ((k : Int) - 1) k)[i]? = some (((k : Int) - 1) - (i : Int)) := by simp [downKs, hi]
    have hs : (downKs ((k : Int) - 1) k).take (i + 1) = (downKs ((k : Int) - 1) k).take i ++ [((k : Int) - 1) - (i : Int)] := by simp [List.take_add_one, hk']
    have hlen : ((downKs ((k : Int) - 1) k).take i).length = i := by rw [List.length_take, downKs_length]; omega
    rw [hs]
    exact turn c _ _ t m₁ h tk own (by rw [hlen]) (by rw [hlen]; exact hi) hoff' hf' hp' (kst_fr h1 h2 F₁) N₁
  · rintro m₁ nx h tk ⟨c, rfl, hf', h1, h2, hp'⟩ F₁ N₁
    have hl : (downKs ((k : Int) - 1) k).take k = downKs ((k : Int) - 1) k := List.take_of_length_le (Nat.le_of_eq (downKs_length _ _))
    rw [hl] at hp'
    exact done c m₁ h tk hf' hp' (kst_frOut h1 h2 F₁) N₁
end
end Mine
end
section
open PySem PySem.Calls PySem.W PyProof.Rows
set_option Elab.async false
set_option maxRecDepth 100000
set_option maxHeartbeats 4000000
namespace Mine
theorem fillDummyHy (w : World) (h : Heap) (_ : PySem.Challenge.rw_pm0017_01.Holds → (hd.heap_39 w.params).In h) : True := by
  have z : PySem.Challenge.rw_pm0017_01.Holds → (hd.heap_39 w.params).In h → True := by
    k_fill
    w_top off
    intro _ _; trivial
  trivial
section
variable {prog : Program} {w : World} {p : Program} {loose : List Str} {mean : ExcName → Option Value} {mg mb : Str → Option Value}
  {dp un : Nat} {gd : Option (List Code)} {cn : Str} {cs : Scope} {a : Addr} {ccd : Value} {cl : List (Str × Addr)} {outer : List Env} {A₀ : Around} {base h₀ : Heap} {L : Addr} {m : Str → Option Value} {s : Shared}
  {Q E : Value → Shared → Prop} {H : Addr} {n : Nat} {tl : List (Addr × Obj)}
local macro_rules | `(tactic| walk_at "subscriptTail") => `(tactic| (k_here; (with_reducible show wpAny _ _ (subscriptTail _ _ (Value.ref _) (Value.int _ _)) _ _ _); k_dflt (refine' get_V ?k1 ?k2 ?k3 ?k4 ?k5 ?_ ?k6; (case k1 => k_asm); (case k2 => k_mem); (case k3 => omega); (case k4 => omega); (case k5 => omega); (case k6 => with_unfolding_all rfl); k_whole)))
local macro_rules | `(tactic| walk_at "MINE go") => `(tactic| repeat' ((fail_if_success (with_reducible show Stop _)); (first | (k_unfold; (try dsimp only)) | (k_end; wrow_close) | walk1 | (dsimp only; walk1) | (leave1; walk_say "STEP leave1"; try dsimp only) | fail "no step")))
local macro_rules | `(tactic| walk_at "exec While Compare cons nil") => `(tactic| refine Stop.i ?_)
local macro_rules | `(tactic| walk_at "KswEnd") => `(tactic| refine Stop.i ?_)
local macro_rules | `(tactic| walk_at "call ref") => `(tactic| refine Stop.i ?_)
local macro_rules | `(tactic| walk_at "compareOp Lt") => `(tactic| (k_here; k_dflt (refine' lt_V ?k1 ?k2 ?k3 ?k4 ?_; (case k1 => k_asm); (case k2 => (refine isP_at (by assumption) ?_ ?_ <;> omega)); (case k3 => (refine isP_at (by assumption) ?_ ?_ <;> omega)); (case k4 => ktr_units); k_whole)))
local macro_rules | `(tactic| walk_at "setItem ref int") => `(tactic| (k_here; (with_reducible show wpAny _ _ (setItem (Value.ref _) (Value.int _ _) _) _ _ _); k_dflt (refine' set_V ?k1 ?k2 ?k3 ?k4 ?k5 ?k6 ?_; (case k1 => k_asm); (case k2 => k_asm); (case k3 => assumption); (case k4 => omega); (case k5 => omega); (case k6 => omega); k_whole); intro h' F' N'; (try k_sweep)))
local macro_rules | `(tactic| walk_at "binaryOp RShift int int") => `(tactic| (refine shr1 ?_))
local macro_rules | `(tactic| walk_at "call builtin:len") => `(tactic| (k_here; (with_reducible show wpAny _ _ (call (Value.builtin _) [Value.ref _]) _ _ _); k_dflt (refine' len_V ?k1 ?k2 ?k3 ?_; (case k1 => k_asm); (case k2 => k_mem); (case k3 => omega); k_whole)))
local macro_rules | `(tactic| walk_at "truthy ref") => `(tactic| (k_here; (with_reducible show wpAny _ _ (truthy (Value.ref _)) _ _ _); k_dflt (refine' truthy_V ?k1 ?k2 ?k3 ?_; (case k1 => k_asm); (case k2 => k_mem); (case k3 => omega); k_whole)))
local macro_rules | `(tactic| walk_at "call builtin:list.pop") => `(tactic| (k_here; (with_reducible show wpAny _ _ (call (Value.builtin _) [Value.ref _]) _ _ _); k_dflt (refine' pop_V ?k1 ?k2 ?k3 ?k4 ?k5 ?_; (case k1 => k_asm); (case k2 => k_asm); (case k3 => assumption); (case k4 => omega); (case k5 => omega); k_whole); intro h' F' N'; (try k_sweep)))
local macro_rules | `(tactic| walk_at "call builtin:list.append") => `(tactic| (k_here; (with_reducible show wpAny _ _ (call (Value.builtin _) [Value.ref _, _]) _ _ _); k_dflt (refine' append_V ?k1 ?k2 ?k3 ?k4 ?_; (case k1 => k_asm); (case k2 => k_asm); (case k3 => assumption); (case k4 => omega); k_whole); intro h' F' N'; (try k_sweep)))
local macro_rules | `(tactic| walk_at "InvEndN") => `(tactic| refine Stop.i ?_)
local macro_rules | `(tactic| walk_at "pyIter ref") => `(tactic| refine Stop.i ?_)
local macro_rules | `(tactic| walk_at "call type:reversed") => `(tactic| (refine Stop.i ?_))

theorem heapify_call {items : List Value} {key : Value → Int × Int}
    (B : Below A₀ base outer h₀) (F : Fr h₀ L s.heap m) (X : (hd.heap_39 w.params).In h₀) (N : News h₀ L s.heap ((H, listOf items.toArray n) :: tl)) (T : Top p loose mean mg mb h₀) (hk : cs.kind = .function)
    (hH : ∀ e ∈ tl, e.1 ≠ H) (hp : ∀ v ∈ items, IsP tl key v) (hlen : items.length ≤ 900) (hd' : dp + 30 < recursionLimit) (hu : un + 300 < cLine)
    (ret : ∀ h' tk', Fr h₀ L h' m → News h₀ L h' ((H, listOf (hfy (ltK key) .none items).toArray n) :: tl) → Q .none { s with heap := h', toks := tk' }) :
    wpAny (model prog w) (ktrTop dp un gd cn cs L a ccd cl outer) (call (.ref 42) [.ref H]) Q E s := by
  refine wpAny_call ?_
  k_dflt ktr_enter
  walk_at "MINE go"
  refine Stop.o ?_
  rename IsRange _ _ _ _ _ _ _ _ => hR
  rename News _ _ _ _ => nE
  rename Fr _ _ _ _ => fE
  have ek2 : ((items.length : Int)).fdiv 2 = ((items.length / 2 : Nat) : Int) := by
    rw [Int.fdiv_eq_ediv_of_nonneg _ (by decide)]; omega
  rw [ek2] at hR
  refine reversed_K fE nE hR (by omega) (by omega) ?_
  intro D h1 F1 N1 hlt
  have hD : ∀ e ∈ (H, listOf items.toArray n) :: tl, e.1 ≠ D := fun e he => Nat.ne_of_lt (hlt e he)
  refine' rev_loop (σ := List Value) (fun c => (H, listOf c.toArray n) :: tl) (fun _ => []) (fun _ => True) [] (fun pre c => pre.length ≤ items.length / 2 ∧ c.length = items.length ∧ (∀ v ∈ c, IsP tl key v) ∧ hfyGo (ltK key) .none (items.length / 2 - pre.length) c = hfy (ltK key) .none items) items rfl F1 N1 hD trivial (fun _ h => nomatch h) ⟨Nat.zero_le _, rfl, hp, rfl⟩ ?zt ?zd
  case zt =>
    rintro c pre j t u h tk own rfl hpre hoff _ ⟨_, hl, hpc, hgo⟩ F2 N2
    dsimp only [List.cons_append] at F2 N2 hoff
    (try k_fold)
    walk_at "MINE go"
    refine Stop.o ?_
    have hH2 : ∀ e ∈ tl ++ own, e.1 ≠ H := fun e he => by
      rcases List.mem_append.mp he with h' | h'
      · exact hH e h'
      · exact hoff e h' H (.head _)
    have hpc2 : ∀ v ∈ c, IsP (tl ++ own) key v := fun v hv => (hpc v hv).mono fun _ h' => List.mem_append_left _ h'
    refine siftup_call (by k_asm) F2 (by k_asm) N2 (by k_asm) rfl hH2 hpc2 (by omega) (by omega) (by omega) (by show dp + 1 + 20 < recursionLimit; omega) (by show un + 3 + 200 < cLine; omega) ?_
    intro h' tk' F3 N3
    walk_at "MINE go"
    refine Stop.o ?_
    have ej : ((items.length / 2 : Nat) - 1 - (pre.length : Int) : Int).toNat = items.length / 2 - (pre.length + 1) := by omega
    rw [ej] at N3
    refine kst_end (su (ltK key) .none c (items.length / 2 - (pre.length + 1))) F3 N3 (fun p hp => ?_) (fun p hp => ?_) rfl trivial (fun _ h => nomatch h) ?_ ?_
    · rcases List.mem_cons.mp hp with rfl | hp
      · exact .head _
      · exact .tail _ (List.mem_append_left _ hp)
    · exact .tail _ (List.mem_append_right _ hp)
    · intro z h1 h2 h3
      simp [h1, kstB]
    · refine ⟨by rw [List.length_append]; simp; omega, ?_, ?_, ?_⟩
      · rw [su_length (by omega)]; exact hl
      · intro v hv
        exact hpc v ((su_perm (by omega)).mem_iff.mp hv)
      · rw [List.length_append, ← hgo]
        have e : items.length / 2 - pre.length = (items.length / 2 - (pre.length + 1)) + 1 := by omega
        rw [e]
        rfl
  case zd =>
    rintro c u h tk _ ⟨_, hl, hpc, hgo⟩ F2 N2
    dsimp only at F2 N2
    rw [downKs_length, Nat.sub_self] at hgo
    rw [show hfyGo (ltK key) Value.none 0 c = c from rfl] at hgo
    rw [← hgo] at ret
    walk_at "MINE go"
    exact ret _ _ (by k_asm) (by k_asm)
end
end Mine
end
section
open PySem PySem.Calls PySem.W PyProof.Rows
set_option Elab.async false
set_option maxRecDepth 100000
set_option maxHeartbeats 4000000
namespace Mine
/-! a for over range(n) with an else: by what holds before each turn -/
section
variable {prog : Program} {w : World} {A : Around} {E : Value → Shared → Prop} {s : Shared} {env : Env} {h₀ : Heap} {x : Str} {body orelse : List Stmt} {Q : Flow → Shared → Prop}
theorem for_else {r : Addr} {n : Nat} {t₀ u₀ v₀ : Tok} {px : Pos} {m₀ : Str → Option Value} {news : List (Addr × Obj)} (J : Nat → (Str → Option Value) → List (Addr × Obj) → Prop)
    (hh : A.handled = none) (hr : IsRange s.heap r 0 n 1 t₀ u₀ v₀) (hn : n < 2 ^ 40) (hx : env.kindOf x = some .local) (hp : (env.scope.kind == .class || (env.scope.kind == .module && env.locals != env.globals)) = false)
    (F : Fr h₀ env.locals s.heap m₀) (N : News h₀ env.locals s.heap news) (hj : J 0 m₀ news)
    (turn : ∀ i t m₁ news₁ h tk own, i < n → OwnOff own (news.map (·.1)) → J i m₁ news₁ → Fr h₀ env.locals h (fun y => if y = x then some (.int (i : Int) t) else m₁ y) → News h₀ env.locals h (news₁ ++ own) →
      wpAny (model prog w) A (execs body env) (InvPostN h₀ env.locals (J (i + 1)) own (news.map (·.1)) { s with heap := h, toks := tk } Q) E { s with heap := h, toks := tk })
    (els : ∀ m₁ news₁ h tk, J n m₁ news₁ → Fr h₀ env.locals h m₁ → News h₀ env.locals h news₁ → wpAny (model prog w) A (execs orelse env) Q E { s with heap := h, toks := tk })
    (hE : PassesOwn (model prog w) A env E) :
    wpAny (model prog w) A (pyIter (.ref r)) (fun it s₂ => codeAny (model prog w) A (.forLoop (.Name x px) it body orelse env) (fun r s' => match r with | .ok f => Q f s' | .error e => cameBackBy (model prog w) A env E e s') s₂) E s := by
  have hsz : Builtin.Range.rangeSize 0 n 1 = (n : Int) := by
    unfold Builtin.Range.rangeSize
    simp only [show (1 : Int) > 0 by decide, if_true]
    split <;> omega
  have hsmall : Builtin.Range.small 0 n 1 = true := small_one (by omega) (by omega) (by omega) (by omega)
  refine wpAny_pyIter_range hr hsmall ?_
  rw [hsz]
  have hIn : h₀.get? s.heap.objs.size = none := by
    cases e : h₀.get? s.heap.objs.size with
    | none => rfl
    | some o => exact absurd (Heap.lt_size (F.keep _ _ e)) (Nat.lt_irrefl _)
  have hLI : env.locals ≠ s.heap.objs.size := Nat.ne_of_lt F.ns.lt
  have hnI : ∀ q ∈ news.map (·.1), q ≠ s.heap.objs.size := fun q hq => by
    obtain ⟨p, hp, rfl⟩ := List.mem_map.mp hq
    exact Nat.ne_of_lt (Heap.lt_size (N p hp).1)
  generalize hI : s.heap.objs.size = I at *
  refine codeAny_forLoop (target := .Name x px)
    (fun k s' => ∃ h' tk m' news' i, s' = { s with heap := h', toks := tk } ∧ IsRangeIter h' I (i : Nat) ((n : Int) - (i : Nat)) 1 ∧ Fr h₀ env.locals h' m' ∧ News h₀ env.locals h' news' ∧ news'.map (·.1) = news.map (·.1) ∧ J i m' news' ∧ i ≤ n ∧ k = n + 1 - i) ?_ (n + 1)
    ⟨_, s.toks, m₀, news, 0, rfl, by simpa [hI] using Heap.get?_push_size s.heap (o := { cls := .type "range_iterator", data := .fields #[rawInt 0, rawInt n, rawInt 1] }) rfl, F.push _, fun p hp => ⟨Heap.get?_push_of_some _ (N p hp).1, (N p hp).2⟩, rfl, hj, Nat.zero_le _, rfl⟩
  rintro k s' ⟨h', tk, m', news', i, rfl, hit, F', N', hadr, hJ, hi, rfl⟩
  have off : ∀ p ∈ news', p.1 ≠ I := fun p hp => hnI _ (hadr ▸ List.mem_map_of_mem hp)
  by_cases hlt : i < n
  · refine wpAny_pyNext_range_item hit (by omega) fun h₁ hit₁ hs₁ => ?_
    have F₁ : Fr h₀ env.locals h₁ m' := F'.change hs₁ (Ne.symm hLI) hIn
    have N₁ : News h₀ env.locals h₁ news' := fun p hp => ⟨(hs₁.2 _ (off p hp)).trans (N' p hp).1, (N' p hp).2⟩
    refine wpAny_assign_Name (wpAny_storeName_local hx F₁.ns (fun h₂ hn₂ hs₂ => ?_) hp)
    have F₂ := F₁.set hn₂ hs₂
    have N₂ := N₁.set hs₂
    have hit₂ : h₂.get? I = some _ := (hs₂.2 I (Ne.symm hLI)).trans hit₁
    have e1 : ((i : Nat) : Int) + 1 = ((i + 1 : Nat) : Int) := by omega
    have e2 : (n : Int) - ((i : Nat) : Int) - 1 = (n : Int) - ((i + 1 : Nat) : Int) := by omega
    rw [e1, e2] at hit₂
    have N₃ : News h₀ env.locals h₂ (news' ++ [(I, { cls := .type "range_iterator", dict := none, data := .fields #[rawInt ((i + 1 : Nat) : Int), rawInt ((n : Int) - ((i + 1 : Nat) : Int)), rawInt 1], slots := #[] })]) := fun p hp => by
      rcases List.mem_append.mp hp with hp | hp
      · exact N₂ p hp
      · rw [List.mem_singleton.mp hp]
        exact ⟨hit₂, Ne.symm hLI, hIn⟩
    refine wpAny_mono (turn i _ m' news' h₂ _ _ hlt ?_ hJ F₂ N₃) (fun f s₃ h₃ => ?_) hE
    · intro p hp b hb
      rw [List.mem_singleton.mp hp]
      exact Ne.symm (hnI b hb)
    · cases f with
      | ret v => exact h₃
      | brk => exact h₃
      | next =>
        obtain ⟨h₄, tk₄, m₄, news₄, nx, rfl, F₄, N₄, hnx, how, ha, hJ₄⟩ := h₃
        exact ⟨n + 1 - (i + 1), by omega, h₄, tk₄, m₄, nx, i + 1, rfl, (N₄ _ (how _ (List.mem_singleton.mpr rfl))).1, F₄, fun p hp => N₄ p (hnx p hp), ha, hJ₄, hlt, rfl⟩
      | cont =>
        obtain ⟨h₄, tk₄, m₄, news₄, nx, rfl, F₄, N₄, hnx, how, ha, hJ₄⟩ := h₃
        exact ⟨n + 1 - (i + 1), by omega, h₄, tk₄, m₄, nx, i + 1, rfl, (N₄ _ (how _ (List.mem_singleton.mpr rfl))).1, F₄, fun p hp => N₄ p (hnx p hp), ha, hJ₄, hlt, rfl⟩
  · obtain rfl : i = n := by omega
    refine wpAny_pyNext_range_end hh hit (by omega) fun h₁ hs₁ => ?_
    have F₁ : Fr h₀ env.locals h₁ m' := ⟨F'.ns.at' fun o e => hs₁ _ o hLI e, fun b o e => hs₁ b o (fun q => by rw [q, hIn] at e; cases e) (F'.keep b o e), F'.above⟩
    have N₁ : News h₀ env.locals h₁ news' := fun p hp => ⟨hs₁ _ _ (off p hp) (N' p hp).1, (N' p hp).2⟩
    exact wpAny_mono (els m' news' h₁ tk hJ F₁ N₁) (fun _ _ z => z) hE

theorem kst_else {σ : Type} {r : Addr} {n : Nat} {t₀ u₀ v₀ : Tok} {px : Pos} {m₀ : Str → Option Value} (Led : σ → List (Addr × Obj)) (ps : σ → List (Str × Value)) (Facts : σ → Prop) (stored : List Str) (P : List Int → σ → Prop) (c₀ : σ)
    (hh : A.handled = none) (hr : IsRange s.heap r 0 n 1 t₀ u₀ v₀) (hn : n < 2 ^ 40) (hx : env.kindOf x = some .local) (hp : (env.scope.kind == .class || (env.scope.kind == .module && env.locals != env.globals)) = false)
    (F : Fr h₀ env.locals s.heap m₀) (N : News h₀ env.locals s.heap (Led c₀)) (hf : Facts c₀) (hk : ∀ p ∈ ps c₀, m₀ p.1 = some p.2) (hp0 : P [] c₀)
    (turn : ∀ (c : σ) (pre : List Int) (k : Int) t (u : Str → Option Value) h tk own, k = (pre.length : Int) → pre.length < n → OwnOff own ((Led c₀).map (·.1)) → Facts c → P pre c →
      Fr h₀ env.locals h (fun y => if y = x then some (.int k t) else kstB (fun z => if stored.contains z then u z else m₀ z) (ps c) y) → News h₀ env.locals h (Led c ++ own) →
      wpAny (model prog w) A (execs body env) (InvPostN h₀ env.locals (KstS Led ps Facts x stored m₀ P (pre ++ [k])) own ((Led c₀).map (·.1)) { s with heap := h, toks := tk } Q) E { s with heap := h, toks := tk })
    (els : ∀ (c : σ) (pre : List Int) (u : Str → Option Value) h tk, Facts c → pre.length = n → P pre c → Fr h₀ env.locals h (fun y => if y = x then u y else kstB (fun z => if stored.contains z then u z else m₀ z) (ps c) y) → News h₀ env.locals h (Led c) → wpAny (model prog w) A (execs orelse env) Q E { s with heap := h, toks := tk })
    (hE : PassesOwn (model prog w) A env E := by passes_own) :
    wpAny (model prog w) A (pyIter (.ref r)) (fun it s₂ => codeAny (model prog w) A (.forLoop (.Name x px) it body orelse env) (fun r s' => match r with | .ok f => Q f s' | .error e => cameBackBy (model prog w) A env E e s') s₂) E s := by
  refine for_else (fun i m nx => KstS Led ps Facts x stored m₀ P ((rangeKs 0 n).take i) m nx) hh hr hn hx hp F N ⟨c₀, rfl, hf, hk, fun _ _ _ _ => rfl, by simpa using hp0⟩ ?_ ?_ hE
  · rintro i t m₁ nx h tk own hi hoff ⟨c, rfl, hf', h1, h2, hp'⟩ F₁ N₁
    have hk' : (rangeKs 0 n)[i]? = some (i : Int) := by simp [rangeKs, hi]
    have hs : (rangeKs 0 n).take (i + 1) = (rangeKs 0 n).take i ++ [(i : Int)] := by simp [List.take_add_one, hk']
    have hlen : ((rangeKs 0 n).take i).length = i := by rw [List.length_take, rangeKs_length]; omega
    rw [hs]
    exact turn c _ _ t m₁ h tk own (by rw [hlen]) (by rw [hlen]; exact hi) hoff hf' hp' (kst_fr h1 h2 F₁) N₁
  · rintro m₁ nx h tk ⟨c, rfl, hf', h1, h2, hp'⟩ F₁ N₁
    exact els c _ m₁ h tk hf' (by rw [List.length_take, rangeKs_length]; omega) hp' (kst_frOut h1 h2 F₁) N₁
end
end Mine
end
section
/-! the bits of a number, and pretty_flags' words, plain -/
open PySem PySem.W PyProof.Rows
namespace Mine
def bitsB (N i : Nat) : List Nat := (List.range i).filter fun k => N.testBit k
theorem bitsB_succ (N i : Nat) : bitsB N (i + 1) = bitsB N i ++ if N.testBit i then [i] else [] := by
  unfold bitsB
  rw [List.range_succ, List.filter_append]
  congr 1
  rw [List.filter_cons]
  split <;> simp
theorem bitsB_lt {N i k : Nat} (h : k ∈ bitsB N i) : k < i := by
  unfold bitsB at h
  exact List.mem_range.mp (List.mem_filter.mp h).1
theorem bitsB_stop {N k : Nat} (h : N < 2 ^ k) : ∀ m, k ≤ m → bitsB N m = bitsB N k := by
  intro m hm
  induction m with
  | zero => rw [Nat.le_zero.mp hm]
  | succ m ih =>
    rcases Nat.eq_or_lt_of_le hm with e | hlt
    · rw [e]
    · rw [bitsB_succ, ih (Nat.le_of_lt_succ hlt), Nat.testBit_lt_two_pow (Nat.lt_of_lt_of_le h (Nat.pow_le_pow_right (by decide) (Nat.le_of_lt_succ hlt)))]
      simp
/-- the number with its low i bits cleared -/
def clr (N i : Nat) : Nat := N - N % 2 ^ i
theorem clr_eq (N i : Nat) : clr N i = 2 ^ i * (N / 2 ^ i) := by
  unfold clr
  have := Nat.div_add_mod N (2 ^ i)
  omega
theorem clr_bit (N i : Nat) : (clr N i).testBit i = N.testBit i := by
  have h := Nat.testBit_div_two_pow (n := i) N 0
  rw [clr_eq, Nat.testBit_two_pow_mul]
  simp only [ge_iff_le, Nat.le_refl, decide_true, Nat.sub_self, Bool.true_and]
  rw [h, Nat.zero_add]
theorem and_pow (x i : Nat) : x &&& 2 ^ i = (x.testBit i).toNat * 2 ^ i := by
  apply Nat.eq_of_testBit_eq
  intro j
  rw [Nat.testBit_and, Nat.testBit_two_pow]
  by_cases h : i = j
  · subst h
    cases hb : x.testBit i with
    | true => simp
    | false => simp
  · cases hb : x.testBit i with
    | true => simp [h]
    | false => simp [h]
theorem clr_and (N i : Nat) : clr N i &&& 2 ^ i = (N.testBit i).toNat * 2 ^ i := by
  rw [and_pow, clr_bit]
theorem bit_eq (N i : Nat) : (N.testBit i).toNat = N / 2 ^ i % 2 := by
  rw [Nat.testBit_eq_decide_div_mod_eq]
  have : N / 2 ^ i % 2 < 2 := Nat.mod_lt _ (by decide)
  by_cases h : N / 2 ^ i % 2 = 1
  · simp [h]
  · simp [h]; omega
theorem clr_succ (N i : Nat) : clr N (i + 1) + (N.testBit i).toNat * 2 ^ i = clr N i := by
  unfold clr
  have h := Nat.mod_pow_succ (x := N) (b := 2) (k := i)
  have h2 : N % 2 ^ (i + 1) ≤ N := Nat.mod_le _ _
  rw [← bit_eq, Nat.mul_comm] at h
  omega
theorem clr_zero {N i : Nat} (h : clr N i = 0) : N < 2 ^ i := by
  unfold clr at h
  have h1 : N % 2 ^ i ≤ N := Nat.mod_le _ _
  have h2 : N % 2 ^ i < 2 ^ i := Nat.mod_lt _ (Nat.two_pow_pos i)
  omega
theorem clr_of_lt {N i : Nat} (h : N < 2 ^ i) : clr N i = 0 := by
  unfold clr
  rw [Nat.mod_eq_of_lt h]; omega
theorem clr_0 (N : Nat) : clr N 0 = N := by simp [clr, Nat.mod_one]

def allNames : List Str := [Str.ofString "OPTIMIZED", Str.ofString "NEWLOCALS", Str.ofString "VARARGS", Str.ofString "VARKEYWORDS", Str.ofString "NESTED", Str.ofString "GENERATOR", Str.ofString "NOFREE", Str.ofString "COROUTINE", Str.ofString "ITERABLE_COROUTINE", Str.ofString "ASYNC_GENERATOR",
  Str.ofString "0x400", Str.ofString "0x800", Str.ofString "0x1000", Str.ofString "0x2000", Str.ofString "0x4000", Str.ofString "0x8000", Str.ofString "0x10000", Str.ofString "0x20000", Str.ofString "0x40000", Str.ofString "0x80000", Str.ofString "0x100000", Str.ofString "0x200000", Str.ofString "0x400000", Str.ofString "0x800000", Str.ofString "0x1000000", Str.ofString "0x2000000", Str.ofString "0x4000000", Str.ofString "0x8000000", Str.ofString "0x10000000", Str.ofString "0x20000000", Str.ofString "0x40000000", Str.ofString "0x80000000"]
def nameStr (i : Nat) : Str := allNames.getD i Str.empty
def pfNames (N : Nat) : List Str := if N = 0 then [Str.ofString "0x0"] else (bitsB N 32).map nameStr
theorem pf_zero : baseText "0x" 16 0 = Str.ofString "0x0" := by decide +kernel
theorem hex_fits : ∀ j, j < 32 → (baseText "0x" 16 ((1 : Int) * 2 ^ j)).length ≤ 20 := by decide +kernel

def strOf : PyData → Option Str
  | .str x => some x
  | _ => none
/-- the table gives each power its word, the number's own hex text where it has none -/
def nameOk (D : List (Int × PyData)) : Bool := (List.range 32).all fun j => strOf ((KTD.datumAt ((1 : Int) * 2 ^ j) D).getD (.str (baseText "0x" 16 ((1 : Int) * 2 ^ j)))) == some (nameStr j)
theorem nameOk_at {D : List (Int × PyData)} (h : nameOk D = true) {j : Nat} (hj : j < 32) : (KTD.datumAt ((1 : Int) * 2 ^ j) D).getD (.str (baseText "0x" 16 ((1 : Int) * 2 ^ j))) = .str (nameStr j) := by
  have := List.all_eq_true.mp h j (List.mem_range.mpr hj)
  have e := eq_of_beq this
  cases hd : (KTD.datumAt ((1 : Int) * 2 ^ j) D).getD (.str (baseText "0x" 16 ((1 : Int) * 2 ^ j))) with
  | str x => rw [hd] at e; exact congrArg PyData.str (Option.some.inj e)
  | _ => rw [hd] at e; cases e
theorem bitAnd_pow (f j : Nat) : Builtin.bitAnd (f : Int) (1 * 2 ^ j) = ((f &&& 2 ^ j : Nat) : Int) := by
  have e : ((1 : Int) * 2 ^ j) = ((2 ^ j : Nat) : Int) := by rw [Int.one_mul, Int.natCast_pow]; rfl
  rw [e]
  generalize 2 ^ j = y
  unfold Builtin.bitAnd
  rw [decide_eq_true (Int.natCast_nonneg f), decide_eq_true (Int.natCast_nonneg y)]
  simp
theorem bitXor_pow (f j : Nat) : Builtin.bitXor (f : Int) (1 * 2 ^ j) = (f : Int) + 2 ^ j - 2 * ((f &&& 2 ^ j : Nat) : Int) := by
  rw [bitXor_and, bitAnd_pow, Int.one_mul]
theorem flag_on {N j : Nat} (h : N.testBit j = true) : Builtin.bitXor (clr N j : Int) (1 * 2 ^ j) = (clr N (j + 1) : Int) := by
  have h1 := clr_succ N j
  rw [bitXor_pow, clr_and, h, ← h1, h]
  simp only [Bool.toNat_true, Nat.one_mul]
  rw [Int.natCast_add, Int.natCast_pow]
  simp only [Int.cast_ofNat_Int]
  omega
theorem flag_off {N j : Nat} (h : N.testBit j = false) : clr N (j + 1) = clr N j := by
  have h1 := clr_succ N j
  rw [h] at h1
  simpa using h1
theorem and_on {N j : Nat} (h : Builtin.bitAnd (clr N j : Int) (1 * 2 ^ j) ≠ 0) : N.testBit j = true := by
  rw [bitAnd_pow, clr_and] at h
  cases hb : N.testBit j with
  | true => rfl
  | false => rw [hb] at h; simp at h
theorem and_off {N j : Nat} (h : Builtin.bitAnd (clr N j : Int) (1 * 2 ^ j) = 0) : N.testBit j = false := by
  rw [bitAnd_pow, clr_and] at h
  cases hb : N.testBit j with
  | false => rfl
  | true =>
    rw [hb] at h
    simp only [Bool.toNat_true, Nat.one_mul] at h
    have := Nat.two_pow_pos j
    omega

theorem values_of : ∀ {vs : List Value} {ss : List Str}, StrsAre vs ss → ∃ l : List (Str × Tok), vs = strValues l ∧ l.map (·.1) = ss
  | _, _, .nil => ⟨[], rfl, rfl⟩
  | _, _, .cons x t r => by
    obtain ⟨l, e1, e2⟩ := values_of r
    exact ⟨(x, t) :: l, by rw [e1]; rfl, by rw [List.map_cons, e2]⟩

theorem name_len : ∀ i, i < 32 → (nameStr i).length ≤ 20 := by decide +kernel
def comma : Str := Str.ofString ", "
def pfText (N : Nat) : Str := Txt.join (Str.ofString ", ") (pfNames N)
theorem pf_len (N : Nat) : ∀ y ∈ pfNames N, y.length ≤ 20 := by
  intro y hy
  unfold pfNames at hy
  split at hy
  · rw [List.mem_singleton.mp hy]; decide
  · obtain ⟨i, hi, rfl⟩ := List.mem_map.mp hy
    exact name_len i (bitsB_lt hi)
theorem pf_count (N : Nat) : (pfNames N).length ≤ 32 := by
  unfold pfNames
  split
  · decide
  · rw [List.length_map]
    unfold bitsB
    exact Nat.le_trans (List.length_filter_le ..) (by simp)
theorem pf_joinOk (N : Nat) : JoinOk (Str.ofString ", ") (pfNames N) = true := by
  unfold JoinOk
  rw [StrLaws.joinFits (B := 20) (pf_len N) ?_]
  · rfl
  · have h1 := pf_count N
    have h2 : (Str.ofString ", ").length = 2 := by decide
    rw [h2]; omega

theorem pfNames_stop {N j : Nat} (hb : N.testBit j = true) (hc : clr N (j + 1) = 0) (hj : j < 32) : pfNames N = (bitsB N j).map nameStr ++ [nameStr j] := by
  have hN : N ≠ 0 := by rintro rfl; simp at hb
  unfold pfNames
  rw [if_neg hN, bitsB_stop (clr_zero hc) 32 (by omega), bitsB_succ, hb, List.map_append]
  rfl

theorem pfText_len (N : Nat) : (pfText N).length ≤ 704 := by
  have e : pfText N = Str.join (Str.ofString ", ") (pfNames N) := StrLaws.glued_eq_join _ _
  rw [e]
  have h1 := StrLaws.join_length_le (Str.ofString ", ") (pfNames N)
  have h2 := StrLaws.sumLen_le _ (pf_len N)
  have h3 := pf_count N
  rw [show (Str.ofString ", ").length = 2 from by decide +kernel] at h1
  omega
section
variable {prog : Program} {w : World} {A : Around} {E : Value → Shared → Prop} {s : Shared} {h₀ : Heap}
theorem join_names {L D : Addr} {news : List (Addr × Obj)} {its : List Value} {n N : Nat} {t : Tok} {Q : Value → Shared → Prop} (Nw : News h₀ L s.heap news) (hm : (D, listOf its.toArray n) ∈ news) (hi : StrsAre its (pfNames N))
    (h : ∀ t' k, Q (.str (pfText N) t') { s with toks := k }) : wpAny (model prog w) A (call (.builtin "str.join") [.str (Str.ofString ", ") t, .ref D]) Q E s := by
  obtain ⟨l, e1, e2⟩ := values_of hi
  subst e1
  exact SC.join (PySem.IsL.isList (n := n) (Nw _ hm).1) e2 (pf_joinOk N) h
theorem hex_flag {j : Nat} (hj : j < 32) {t : Tok} {Q : Value → Shared → Prop} (h : Q (.str (baseText "0x" 16 (1 * 2 ^ j)) s.toks) { s with toks := s.toks + 1 }) :
    wpAny (model prog w) A (call (.builtin "hex") [.int (1 * 2 ^ j) t]) Q E s :=
  P.hex_of_int h (Nat.le_trans (hex_fits j hj) (by rw [sizeLine_eq]; decide))
theorem hex_nought {t : Tok} {Q : Value → Shared → Prop} (h : Q (.str (Str.ofString "0x0") s.toks) { s with toks := s.toks + 1 }) :
    wpAny (model prog w) A (call (.builtin "hex") [.int 0 t]) Q E s :=
  P.hex_of_int (by rw [pf_zero]; exact h) (by rw [pf_zero, sizeLine_eq]; decide)
theorem get_name {D : List (Int × PyData)} {a : Addr} {j : Nat} (hj : j < 32) (K : KTD.Keyed h₀ a D) (hk : ∀ b o, h₀.get? b = some o → s.heap.get? b = some o) (hD : nameOk D = true) {u t : Tok} {Q : Value → Shared → Prop}
    (h : ∀ t', Q (.str (nameStr j) t') { s with toks := s.toks + 1 }) :
    wpAny (model prog w) A (call (.builtin "dict.get") [.ref a, .int (1 * 2 ^ j) u, .str (baseText "0x" 16 (1 * 2 ^ j)) t]) Q E s := by
  refine call_get2_intTab (K.keep hk prog w) (PyProof.V.Flat.str _ _) fun v hv => ?_
  rw [KTD.lookup_keyed, nameOk_at hD hj] at hv
  obtain ⟨t', rfl⟩ : ∃ t', v = .str (nameStr j) t' := by
    have := hv s.heap
    cases this
    exact ⟨_, rfl⟩
  exact h _
theorem add_tab {k : Int} (h0 : 10 ≤ k) (h1 : k < 32) {t u : Tok} {Q : Value → Shared → Prop} (h : ∀ t' tk, Q (.str (nameStr k.toNat) t') { s with toks := tk }) :
    wpAny (model prog w) A (binaryOp .Add (.str (Str.ofString "0x" ++ Txt.item (Str.ofString "1248") (k.fmod 4)) t) (.str (Txt.mul (Str.ofString "0") (k.fdiv 4)) u)) Q E s := by
  have key : ∀ j : Nat, j < 22 → (Str.ofString "0x" ++ Txt.item (Str.ofString "1248") (Int.fmod (10 + j) 4)) ++ Txt.mul (Str.ofString "0") (Int.fdiv (10 + j) 4) = nameStr (10 + j) ∧ (Str.ofString "0x" ++ Txt.item (Str.ofString "1248") (Int.fmod (10 + j) 4)).length + (Txt.mul (Str.ofString "0") (Int.fdiv (10 + j) 4)).length ≤ 20 := by decide +kernel
  obtain ⟨e1, e2⟩ := key (k.toNat - 10) (by omega)
  have ek : (10 : Int) + ((k.toNat - 10 : Nat) : Int) = k := by omega
  have en : 10 + (k.toNat - 10) = k.toNat := by omega
  rw [ek, en] at e1
  rw [ek] at e2
  refine PyProof.Rows.add_str (fun t' tk => ?_) (Nat.le_trans e2 (by rw [sizeLine_eq]; decide))
  rw [e1]
  exact h t' tk
def isStrV (x : Str) : Value → Bool
  | .str y _ => y == x
  | _ => false
theorem names_apart : ∀ i, i < 32 → ∀ j, j < i → (nameStr j == nameStr i) = false := by decide +kernel
theorem index_name {L D : Addr} {news : List (Addr × Obj)} {its : List Value} {n i : Nat} {t : Tok} {Q : Value → Shared → Prop} (hi : i < 32) (Nw : News h₀ L s.heap news) (hm : (D, listOf its.toArray n) ∈ news) (hs : StrsAre its allNames)
    (h : Q (.int (i : Int) s.toks) { s with toks := s.toks + 1 }) : wpAny (model prog w) A (call (.builtin "list.index") [.ref D, .str (nameStr i) t]) Q E s := by
  obtain ⟨l, rfl, e2⟩ := values_of hs
  have hlen : l.length = 32 := by
    have := congrArg List.length e2
    rw [List.length_map] at this
    exact this
  have hsz : (strValues l).toArray.size = 32 := by rw [List.size_toArray, strValues, List.length_map, hlen]
  have hat : ∀ m (hm' : m < (strValues l).toArray.size), ∃ u, (strValues l).toArray[m] = .str (nameStr m) u := by
    intro m hm'
    have hml : m < l.length := by omega
    refine ⟨l[m].2, ?_⟩
    have e3 : (strValues l).toArray[m] = .str l[m].1 l[m].2 := by simp [strValues]
    have e4 : l[m].1 = nameStr m := by
      unfold nameStr
      rw [← e2, List.getD_eq_getElem?_getD, List.getElem?_map, List.getElem?_eq_getElem hml]
      rfl
    rw [e3, e4]
  have ho := (Nw _ hm).1
  refine call_meets PySem.F.slot_list_index ⟨_, ho, rfl⟩ PySem.F.entry_list_index (PySem.F.args_list_index_2 _ _)
    (PySem.MeetsSeq.list_index D (strValues l).toArray n (.str (nameStr i) t) (isStrV (nameStr i)) ?_ i (by omega) (by omega) ?_ ?_) ⟨ho, h⟩
  · intro y hy
    obtain ⟨m, hm', rfl⟩ := Array.getElem_of_mem hy
    obtain ⟨u, e⟩ := hat m hm'
    rw [e]
    exact fun _ _ _ _ _ _ h => PyProof.Rows.eqBool_str h
  · obtain ⟨u, e⟩ := hat i (by omega)
    rw [e]
    exact beq_self_eq_true _
  · intro m hm' hlt
    obtain ⟨u, e⟩ := hat m hm'
    rw [e]
    exact names_apart i hi m hlt
end
end Mine
end
section
open PySem PySem.Calls PySem.W PyProof.Rows
set_option Elab.async false
set_option maxRecDepth 100000
set_option maxHeartbeats 4000000
namespace Mine
theorem fillDummyPf (w : World) (h : Heap) (_ : PySem.Challenge.rw_pm0017_01.Holds → (hd.heap_39 w.params).In h) : True := by
  have z : PySem.Challenge.rw_pm0017_01.Holds → (hd.heap_39 w.params).In h → True := by
    k_fill
    w_top off
    intro _ _; trivial
  trivial
section
variable {prog : Program} {w : World} {p : Program} {loose : List Str} {mean : ExcName → Option Value} {mg mb : Str → Option Value}
  {dp un : Nat} {gd : Option (List Code)} {cn : Str} {cs : Scope} {a : Addr} {ccd : Value} {cl : List (Str × Addr)} {outer : List Env} {A₀ : Around} {base h₀ : Heap} {L : Addr} {m : Str → Option Value} {s : Shared}
  {Q E : Value → Shared → Prop}
local macro_rules | `(tactic| walk_at "MINE go") => `(tactic| repeat' ((fail_if_success (with_reducible show Stop _)); (first | (k_unfold; (try dsimp only)) | (k_end; wrow_close) | walk1 | (dsimp only; walk1) | (leave1; walk_say "STEP leave1"; try dsimp only) | fail "no step")))
local macro_rules | `(tactic| walk_at "InvEndN") => `(tactic| refine Stop.i ?_)
local macro_rules | `(tactic| walk_at "pyIter ref") => `(tactic| refine Stop.i ?_)
local macro_rules | `(tactic| walk_at "exec For Name Call cons cons") => `(tactic| (refine wpAny_For ?_ ?_; rotate_left; (intro _; rfl)))

local macro_rules | `(tactic| walk_at "call builtin:hex") => `(tactic| first | refine hex_flag (by assumption) ?_ | refine hex_nought ?_)
local macro_rules | `(tactic| walk_at "call builtin:dict.get") => `(tactic| (k_here; (rename KTD.Keyed _ _ _ => kyT); k_dflt (refine get_name (by assumption) kyT (Fr.keep (by k_asm)) (by decide +kernel) ?_); intro t'))
local macro_rules | `(tactic| walk_at "call builtin:list.append") => `(tactic| (k_here; (with_reducible show wpAny _ _ (call (Value.builtin _) [Value.ref _, _]) _ _ _); k_dflt (refine' append_V ?k1 ?k2 ?k3 ?k4 ?_; (case k1 => k_asm); (case k2 => k_asm); (case k3 => assumption); (case k4 => omega); k_whole); intro h' F' N'; (try k_sweep)))

local macro_rules | `(tactic| walk_at "call builtin:str.join") => `(tactic| refine Stop.i ?_)
theorem pretty_call {N : Nat} {t : Tok} {news : List (Addr × Obj)}
    (B : Below A₀ base outer h₀) (F : Fr h₀ L s.heap m) (X : (hd.heap_39 w.params).In h₀) (Nw : News h₀ L s.heap news) (T : Top p loose mean mg mb h₀) (hk : cs.kind = .function)
    (hN : N < 2 ^ 32) (hd' : dp + 20 < recursionLimit) (hu : un + 200 < cLine)
    (ret : ∀ h' tk' t', Fr h₀ L h' m → News h₀ L h' news → Q (.str (pfText N) t') { s with heap := h', toks := tk' }) :
    wpAny (model prog w) (ktrTop dp un gd cn cs L a ccd cl outer) (call (.ref 64) [.int (N : Int) t]) Q E s := by
  refine wpAny_call ?_
  k_dflt ktr_enter
  walk_at "MINE go"
  refine Stop.o ?_
  rename News _ _ _ _ => nE
  rename Fr _ _ _ _ => fE
  rename IsRange _ _ _ _ _ _ _ _ => hR
  refine with_addr nE (fun D hD => ?_)
  subst hD
  rename ∀ p ∈ news, p.1 < D => hlt
  have hne : ∀ p ∈ news, p.1 ≠ D := fun p hp => Nat.ne_of_lt (hlt p hp)
  refine' kst_else (σ := List Value × Int × Tok × Nat) (n := 32) (fun c => (D, listOf c.1.toArray c.2.2.2) :: news) (fun c => [(Str.ofString "flags", .int c.2.1 c.2.2.1)]) (fun _ => True) [Str.ofString "flag"]
    (fun pre c => pre.length ≤ 32 ∧ c.2.1 = (clr N pre.length : Int) ∧ StrsAre c.1 ((bitsB N pre.length).map nameStr) ∧ c.1.length ≤ pre.length ∧ (N = 0 ∨ clr N pre.length ≠ 0)) ([], N, t, 0) rfl hR (by decide) rfl rfl fE nE trivial ?zk ?zp ?zt ?ze
  case zk =>
    intro x hx
    simp only [List.mem_singleton] at hx
    subst hx
    with_unfolding_all rfl
  case zp =>
    refine ⟨by decide, ?_, .nil, Nat.le_refl _, ?_⟩
    · show (N : Int) = (clr N 0 : Int); rw [clr_0]
    · show N = 0 ∨ clr N 0 ≠ 0; rw [clr_0]; omega
  case zt =>
    rintro ⟨its, f, tf, nn⟩ pre k tk₁ u h tk own hk hpre hoff _ ⟨_, hf, hits, hlen, hnz⟩ F1 N1
    dsimp only [List.cons_append] at F1 N1 hoff hf hits hlen hnz
    subst hf
    have hk0 : 0 ≤ k := by omega
    have hk32 : k < 32 := by omega
    have hkn : k.toNat < 32 := by omega
    have ekn : k.toNat = pre.length := by omega
    have hH2 : ∀ e ∈ news ++ own, e.1 ≠ D := fun e he => by
      rcases List.mem_append.mp he with h' | h'
      · exact hne e h'
      · exact hoff e h' D (.head _)
    (try k_fold)
    walk_at "MINE go"
    · refine Stop.o ?_
      rename Builtin.bitAnd _ _ ≠ 0 => hand
      rename Builtin.bitXor _ _ ≠ 0 => hxr
      rename News _ _ _ _ => nF
      rename Fr _ _ _ _ => fF
      rw [ekn] at hand hxr fF nF
      have hb := and_on hand
      rw [flag_on hb] at fF hxr
      refine' kst_end (its ++ [.str (nameStr pre.length) _], (clr N (pre.length + 1) : Int), _, _) fF nF ?zn ?zo ?za trivial ?zk ?zr ?zp
      case zn =>
        intro p hp
        rcases List.mem_cons.mp hp with rfl | hp
        · exact .head _
        · exact .tail _ (List.mem_append_left _ hp)
      case zo => exact fun p hp => .tail _ (List.mem_append_right _ hp)
      case za => rfl
      case zk =>
        intro x hx
        simp only [List.mem_singleton] at hx
        subst hx
        with_unfolding_all rfl
      case zr =>
        intro z h1 h2 h3
        simp only [List.forall_mem_cons, List.not_mem_nil, false_implies, implies_true, and_true, ne_eq] at h2
        simp only [List.contains_cons, List.contains_nil, Bool.or_false, beq_eq_false_iff_ne, ne_eq] at h3
        simp [h1, h2, h3, kstB]
      case zp =>
        rw [List.length_append, List.length_singleton]
        refine ⟨by omega, rfl, ?_, by rw [List.length_append, List.length_singleton]; omega, ?_⟩
        · rw [bitsB_succ, hb, List.map_append]
          exact kct_snoc hits
        · right
          intro e
          rw [e] at hxr
          exact hxr rfl
    · refine Stop.o ?_
      rename Builtin.bitAnd _ _ ≠ 0 => hand
      rename Builtin.bitXor _ _ = 0 => hxr
      rename News _ _ _ _ => nF
      rw [ekn] at hand hxr nF
      have hb := and_on hand
      rw [flag_on hb] at hxr
      refine join_names nF (.head _) (N := N) ?_ ?_
      · rw [pfNames_stop hb (by omega) (by omega)]
        exact kct_snoc hits
      · intro t' k'
        walk_at "MINE go"
        exact ret _ _ _ (by k_asm) (kst_newsOf (by k_asm) fun p hp => .tail _ (List.mem_append_left _ hp))
    · refine Stop.o ?_
      rename Builtin.bitAnd _ _ = 0 => hand
      rename News _ _ _ _ => nF
      rename Fr _ _ _ _ => fF
      rw [ekn] at hand
      have hb := and_off hand
      have hcl := flag_off hb
      refine' kst_end (its, (clr N pre.length : Int), _, _) fF nF ?zn ?zo ?za trivial ?zk ?zr ?zp
      case zn =>
        intro p hp
        rcases List.mem_cons.mp hp with rfl | hp
        · exact .head _
        · exact .tail _ (List.mem_append_left _ hp)
      case zo => exact fun p hp => .tail _ (List.mem_append_right _ hp)
      case za => rfl
      case zk =>
        intro x hx
        simp only [List.mem_singleton] at hx
        subst hx
        with_unfolding_all rfl
      case zr =>
        intro z h1 h2 h3
        simp only [List.forall_mem_cons, List.not_mem_nil, false_implies, implies_true, and_true, ne_eq] at h2
        simp only [List.contains_cons, List.contains_nil, Bool.or_false, beq_eq_false_iff_ne, ne_eq] at h3
        simp [h1, h2, h3, kstB]
      case zp =>
        rw [List.length_append, List.length_singleton]
        refine ⟨by omega, by rw [hcl], ?_, Nat.le_succ_of_le hlen, by rw [hcl]; exact hnz⟩
        rw [bitsB_succ, hb]
        simpa using hits
  case ze =>
    rintro ⟨its, f, tf, nn⟩ pre u h tk _ hpl ⟨_, hf, hits, hlen, hnz⟩ F1 N1
    dsimp only at F1 N1 hf hits hlen hnz
    have hN0 : N = 0 := by
      rcases hnz with h0 | h0
      · exact h0
      · exact absurd (clr_of_lt (by rw [hpl]; exact hN)) h0
    subst hN0
    have hf0 : f = 0 := by rw [hf, hpl]; decide
    subst hf0
    (try k_fold)
    walk_at "MINE go"
    refine Stop.o ?_
    rename News _ _ _ _ => nF
    refine join_names nF (.head _) (N := 0) ?_ ?_
    · have hb0 : bitsB 0 pre.length = [] := by
        unfold bitsB
        rw [List.filter_eq_nil_iff]
        intro a _
        simp
      rw [hb0] at hits
      cases hits
      exact .cons _ _ .nil
    · intro t' k'
      walk_at "MINE go"
      exact ret _ _ _ (by k_asm) (kst_newsOf (by k_asm) fun p hp => .tail _ hp)
end
end Mine
end
section
/-! the words come apart as they were put together -/
open PySem PySem.W PyProof.Rows PySem.StrLaws PySem.Builtin.Str
namespace Mine
/-- the words' signs, glued by comma and blank -/
def gluedL : List (List Nat) → List Nat
  | [] => []
  | [p] => p
  | p :: q :: r => p ++ 44 :: 32 :: gluedL (q :: r)
theorem join_toList : ∀ ps : List Str, (Str.join (Str.ofString ", ") ps).cps.toList = gluedL (ps.map fun p => p.cps.toList)
  | [] => rfl
  | [p] => rfl
  | p :: q :: r => by
    have ih := join_toList (q :: r)
    show (p ++ Str.ofString ", " ++ Str.join (Str.ofString ", ") (q :: r)).cps.toList = _
    rw [Str.cps_append, Str.cps_append, Array.toList_append, Array.toList_append, ih]
    rw [show (Str.ofString ", ").cps.toList = [44, 32] from by decide +kernel]
    simp [gluedL]

theorem at_iff (x : Str) (k : Nat) : At x (Str.ofString ", ") x.length k ↔ k + 2 ≤ x.length ∧ (x.cps.toList.drop k).take 2 = [44, 32] := by
  unfold At
  rw [subAt_eq, show (Str.ofString ", ").length = 2 from by decide +kernel, show (Str.ofString ", ").cps.toList = [44, 32] from by decide +kernel, beq_iff_eq]

theorem parts_of (x : Str) : ∀ (ps : List (List Nat)) (a f : Nat) (cuts : List Nat), ps ≠ [] → (∀ p ∈ ps, 44 ∉ p) → a ≤ x.length → x.cps.toList.drop a = gluedL ps →
    ChainG x (Str.ofString ", ") x.length a cuts f → (∀ k, f ≤ k → ¬ At x (Str.ofString ", ") x.length k) → (partsFrom x 2 a cuts).map (fun p => p.cps.toList) = ps
  | [], _, _, _, h, _, _, _, _, _ => absurd rfl h
  | [p], a, f, cuts, _, hfree, ha, hx, hG, hn => by
    have hno : ∀ k, a ≤ k → ¬ At x (Str.ofString ", ") x.length k := by
      intro k hk hA
      obtain ⟨h1, h2⟩ := (at_iff x k).mp hA
      have e : x.cps.toList.drop k = p.drop (k - a) := by
        have : x.cps.toList.drop k = (x.cps.toList.drop a).drop (k - a) := by rw [List.drop_drop]; congr 1; omega
        rw [this, hx]; rfl
      rw [e] at h2
      have hm : 44 ∈ (p.drop (k - a)).take 2 := by rw [h2]; exact .head _
      exact hfree p (.head _) (List.mem_of_mem_drop (List.mem_of_mem_take hm))
    cases cuts with
    | nil =>
      show [(strSub x a x.length).cps.toList] = [p]
      rw [strSub_toList, hx]
      have hl : p.length = x.length - a := by
        have := congrArg List.length hx
        rw [List.length_drop] at this
        simp only [gluedL] at this
        rw [← this]; rfl
      show [p.take (x.length - a)] = [p]
      rw [← hl, List.take_length]
    | cons c r => exact absurd hG.2.1 (hno c hG.1)
  | p :: q :: r, a, f, cuts, _, hfree, ha, hx, hG, hn => by
    have hlen : x.cps.toList.length = x.length := by simp [Str.length]
    have hxl := congrArg List.length hx
    rw [List.length_drop, hlen] at hxl
    simp only [gluedL, List.length_append, List.length_cons] at hxl
    have hAt : At x (Str.ofString ", ") x.length (a + p.length) := by
      refine (at_iff x _).mpr ⟨by omega, ?_⟩
      rw [← List.drop_drop, hx]
      simp [gluedL]
    cases cuts with
    | nil =>
      have e : f = a := hG
      exact absurd hAt (hn _ (by omega))
    | cons c cs =>
      obtain ⟨hac, hAc, hno, hG'⟩ := hG
      have hcle : c ≤ a + p.length := by
        by_cases h : c ≤ a + p.length
        · exact h
        · exact absurd hAt (hno _ (by omega) (by omega))
      have hc : c = a + p.length := by
        rcases Nat.lt_or_ge c (a + p.length) with h | h
        · exfalso
          obtain ⟨h1, h2⟩ := (at_iff x c).mp hAc
          have e : x.cps.toList.drop c = (gluedL (p :: q :: r)).drop (c - a) := by
            have : x.cps.toList.drop c = (x.cps.toList.drop a).drop (c - a) := by rw [List.drop_drop]; congr 1; omega
            rw [this, hx]
          rw [e] at h2
          have h3 : ((gluedL (p :: q :: r)).drop (c - a))[0]? = some 44 := by
            have := congrArg (fun l => l[0]?) h2
            rw [List.getElem?_take_of_lt (by decide)] at this
            exact this
          rw [List.getElem?_drop, Nat.add_zero] at h3
          simp only [gluedL] at h3
          rw [List.getElem?_append_left (by omega)] at h3
          exact hfree p (.head _) (List.mem_of_getElem? h3)
        · omega
      have hx2 : x.cps.toList.drop (c + 2) = gluedL (q :: r) := by
        have : x.cps.toList.drop (c + 2) = (x.cps.toList.drop a).drop (p.length + 2) := by rw [List.drop_drop]; congr 1; omega
        rw [this, hx]
        simp only [gluedL]
        rw [← List.drop_drop, List.drop_left]
        rfl
      have ih := parts_of x (q :: r) (c + 2) f cs (by simp) (fun s hs => hfree s (.tail _ hs)) (by omega) hx2 hG' hn
      show (strSub x a c).cps.toList :: (partsFrom x 2 (c + 2) cs).map (fun p => p.cps.toList) = p :: q :: r
      rw [ih, strSub_toList, hx, hc]
      congr 1
      simp only [gluedL]
      rw [Nat.add_sub_cancel_left, List.take_left]

theorem split_glued {ps : List Str} (hne : ps ≠ []) (hfree : ∀ p ∈ ps, 44 ∉ p.cps.toList) : Txt.split (Str.join (Str.ofString ", ") ps) (Str.ofString ", ") = ps := by
  generalize hxe : Str.join (Str.ofString ", ") ps = x
  have hx : x.cps.toList.drop 0 = gluedL (ps.map fun p => p.cps.toList) := by rw [List.drop_zero, ← hxe, join_toList]
  obtain ⟨f, hG, hn⟩ := occ_tight x (Str.ofString ", ") (by decide +kernel)
  have hy2 : (Str.ofString ", ").length = 2 := by decide +kernel
  have key := parts_of x (ps.map fun p => p.cps.toList) 0 f _ (by simpa using hne) (fun p hp => by
    obtain ⟨q, hq, rfl⟩ := List.mem_map.mp hp
    exact hfree q hq) (Nat.zero_le _) hx hG hn
  have inj : ∀ (l l' : List Str), l.map (fun p => p.cps.toList) = l'.map (fun p => p.cps.toList) → l = l' := by
    intro l
    induction l with
    | nil => intro l' h; cases l' with | nil => rfl | cons _ _ => cases h
    | cons a l ih =>
      intro l' h
      cases l' with
      | nil => cases h
      | cons b l' =>
        simp only [List.map_cons, List.cons.injEq] at h
        rw [ih l' h.2, Str.ext' (Array.toList_inj.mp h.1)]
  have key2 := inj _ _ key
  unfold Txt.split
  split
  · rename_i hc
    rw [Bool.or_eq_true, decide_eq_true_eq, decide_eq_true_eq] at hc
    have hk : ¬ Builtin.Str.strKind x < Builtin.Str.strKind (Str.ofString ", ") := by
      rw [show Builtin.Str.strKind (Str.ofString ", ") = 1 from by decide +kernel]
      unfold Builtin.Str.strKind; split
      · omega
      · split <;> omega
    have hl : x.length < 2 := by
      rcases hc with h | h
      · rw [hy2] at h; exact h
      · exact absurd h hk
    match ps, hne, hx, hxe with
    | [p], _, _, hxe => rw [← hxe]; rfl
    | p :: q :: r, _, hx, _ =>
      have := congrArg List.length hx
      rw [List.drop_zero] at this
      have hlen : x.cps.toList.length = x.length := by simp [Str.length]
      rw [hlen] at this
      simp only [List.map_cons, gluedL, List.length_append, List.length_cons] at this
      omega
  · split
    · rename_i he
      have e0 := List.isEmpty_iff.mp he
      rw [e0] at key2
      rw [← key2]
      show [x] = [strSub x 0 x.length]
      rw [sub_whole]
    · rw [partsBetween_eq, hy2]
      exact key2

theorem names_free : ∀ i, i < 32 → 44 ∉ (nameStr i).cps.toList := by decide +kernel
theorem pfNames_free (N : Nat) : ∀ p ∈ pfNames N, 44 ∉ p.cps.toList := by
  intro p hp
  unfold pfNames at hp
  split at hp
  · rw [List.mem_singleton.mp hp]; decide +kernel
  · obtain ⟨i, hi, rfl⟩ := List.mem_map.mp hp
    exact names_free i (bitsB_lt hi)
theorem pfNames_ne {N : Nat} (h : N < 2 ^ 32) : pfNames N ≠ [] := by
  unfold pfNames
  split
  · simp
  · rename_i h0
    intro e
    have hb : bitsB N 32 = [] := List.map_eq_nil_iff.mp e
    refine h0 (Nat.eq_of_testBit_eq fun i => ?_)
    rw [Nat.zero_testBit]
    by_cases hi : i < 32
    · cases ht : N.testBit i with
      | false => rfl
      | true =>
        have : i ∈ bitsB N 32 := List.mem_filter.mpr ⟨List.mem_range.mpr hi, ht⟩
        rw [hb] at this; cases this
    · exact Nat.testBit_lt_two_pow (Nat.lt_of_lt_of_le h (Nat.pow_le_pow_right (by decide) (by omega)))
theorem pf_split {N : Nat} (h : N < 2 ^ 32) : Txt.split (pfText N) (Str.ofString ", ") = pfNames N := by
  have e : pfText N = Str.join (Str.ofString ", ") (pfNames N) := glued_eq_join _ _
  rw [e]
  exact split_glued (pfNames_ne h) (pfNames_free N)
theorem names_x : ∀ i, i < 32 → nameStr i ≠ Str.ofString "0x0" := by decide +kernel
theorem pf_nought {N : Nat} (h : N < 2 ^ 32) : pfText N = Str.ofString "0x0" ↔ N = 0 := by
  constructor
  · intro e
    have hs := pf_split h
    rw [e, show Txt.split (Str.ofString "0x0") (Str.ofString ", ") = [Str.ofString "0x0"] from by decide +kernel] at hs
    by_cases h0 : N = 0
    · exact h0
    · exfalso
      unfold pfNames at hs
      rw [if_neg h0] at hs
      have hm : Str.ofString "0x0" ∈ (bitsB N 32).map nameStr := by rw [← hs]; exact .head _
      obtain ⟨i, hi, e2⟩ := List.mem_map.mp hm
      exact names_x i (bitsB_lt hi) e2
  · rintro rfl; decide +kernel
end Mine
end
section
open PySem PySem.Calls PySem.W PyProof.Rows
set_option Elab.async false
set_option maxRecDepth 100000
set_option maxHeartbeats 4000000
namespace Mine
theorem ints_snoc {k : Int} {t : Tok} : ∀ {vs : List Value} {ns : List Int}, IntsAre vs ns → IntsAre (vs ++ [.int k t]) (ns ++ [k])
  | _, _, .nil => .cons k t .nil
  | _, _, .cons i u r => .cons i u (ints_snoc r)
theorem off1_mem {D : Addr} : ∀ {l : List (Addr × Obj)}, LCg.Off1 D l → ∀ p ∈ l, p.1 ≠ D
  | [], _, _, h => nomatch h
  | _ :: _, x, p, h => by
    rcases List.mem_cons.mp h with rfl | h
    · exact x.1
    · exact off1_mem x.2 p h
/-! a comprehension by what holds before each turn -/
section
variable {prog : Program} {w : World} {A : Around} {h₀ : Heap} {L : Addr} {m : Str → Option Value} {env : Env} {elt : Expr} {x : Str} {scope : Scope} {cl : List (Str × Addr)} {s : Shared} {S : List (Addr × Obj) → Prop} {P : Nat → Value → Prop} {Fin : List Value → List (Addr × Obj) → Prop}
theorem compRest_of {n : Nat} {news : List (Addr × Obj)} (R : Nat → List Value → List (Addr × Obj) → Prop) (start : R 0 [] news)
    (turn : ∀ i ys nw v I oI C oC D m₂ h tk (E' : Value → Shared → Prop), i < n → R i ys nw → P i v → LCg.NsObj oC m₂ → m₂ x = some v → Fr h₀ L h m → News h₀ L h ((I, oI) :: (C, oC) :: (D, LCg.lst ys) :: nw) → LCg.Off3 I C D nw → ((@Ne Nat I C) ∧ (@Ne Nat I D) ∧ (@Ne Nat C D)) →
      wpAny (model prog w) A (eval elt (compEnvC scope cl C env)) (LCg.CompEnd h₀ L m { s with heap := h, toks := tk } I oI C oC D (LCg.lst ys) S (fun y nw' => R (i + 1) (ys ++ [y]) nw')) E' { s with heap := h, toks := tk })
    (fin : ∀ ys nw, R n ys nw → Fin ys nw) : LCg.CompRest prog w A h₀ L m env elt x scope cl s S P Fin n 0 [] news := by
  have key : ∀ (j i : Nat) (ys : List Value) (nw : List (Addr × Obj)), i + j = n → R i ys nw → LCg.CompRest prog w A h₀ L m env elt x scope cl s S P Fin j i ys nw := by
    intro j
    induction j with
    | zero =>
      intro i ys nw hi hy
      have e : i = n := by omega
      subst e
      exact LCg.CompRest.zero (fin ys nw hy)
    | succ j ih =>
      intro i ys nw hi hy
      refine LCg.CompRest.succ ?_
      intro v I oI C oC D m₂ h tk E' hv hC hx F N off ne
      refine wpAny_mono (turn i ys nw v I oI C oC D m₂ h tk E' (by omega) hy hv hC hx F N off ne) (fun y s₂ hq => ?_) fun _ _ e => e
      obtain ⟨h', tk', nw', e, F', N', off', hS, hr⟩ := hq
      exact ⟨h', tk', nw', e, F', N', off', hS, ih (i + 1) _ nw' (by omega) hr⟩
  exact key n 0 [] news (by omega) start
end
end Mine
end
section
open PySem PySem.Calls PySem.W PyProof.Rows
set_option Elab.async false
set_option maxRecDepth 100000
set_option maxHeartbeats 4000000
namespace Mine
theorem fillDummyPw (w : World) (h : Heap) (_ : PySem.Challenge.rw_pm0017_01.Holds → (hd.heap_39 w.params).In h) : True := by
  have z : PySem.Challenge.rw_pm0017_01.Holds → (hd.heap_39 w.params).In h → True := by
    k_fill
    w_top off
    intro _ _; trivial
  trivial
section
variable {prog : Program} {w : World} {p : Program} {loose : List Str} {mean : ExcName → Option Value} {mg mb : Str → Option Value}
  {dp un : Nat} {gd : Option (List Code)} {cn : Str} {cs : Scope} {a : Addr} {ccd : Value} {cl : List (Str × Addr)} {outer : List Env} {A₀ : Around} {base h₀ : Heap} {L : Addr} {m : Str → Option Value} {s : Shared}
  {Q E : Value → Shared → Prop}
local macro_rules | `(tactic| walk_at "MINE go") => `(tactic| repeat' ((fail_if_success (with_reducible show Stop _)); (first | (k_unfold; (try dsimp only)) | (k_end; wrow_close) | walk1 | (dsimp only; walk1) | (leave1; walk_say "STEP leave1"; try dsimp only) | fail "no step")))
local macro_rules | `(tactic| walk_at "MINE enterC") => `(tactic| (refine' code_defC ?k1 ?k2 ?k3 ?k4 ?k5 ?kA ?kF ?kK ?k6 ?k7 ?k8 ?k9 ?kB ?kD ?_ ?c2 ?c3 ?c4; (case kA => exact rfl); (case kF => exact rfl); (case kK => assumption); (case k1 => k_asm); (case k2 => k_asm); (case k3 => k_asm); (case k4 => k_asm); (case k5 => k_asm); (case k6 => k_is); (case k7 => k_is); (case k8 => ktr_room); (case k9 => exact BindsTo.of_eq rfl); (case kB => exact rfl); (case kD => decide +kernel); (case c2 => exact rfl); (case c3 => exact rfl); (case c4 => exact rfl); k_whole; intro g' L' h' tk' cells' FG' F' N' Y' B' X' T' l1; k_cells Y'; (try simp only [List.cons_append, List.nil_append] at N'); (try dsimp only); (try k_fold)))
local macro_rules | `(tactic| walk_at "InvEndN") => `(tactic| refine Stop.i ?_)
local macro_rules | `(tactic| walk_at "pyIter ref") => `(tactic| refine Stop.i ?_)
local macro_rules | `(tactic| walk_at "call ref") => `(tactic| refine Stop.i ?_)
local macro_rules | `(tactic| walk_at "call builtin:str.join") => `(tactic| refine Stop.i ?_)
local macro_rules | `(tactic| walk_at "call builtin:list.append") => `(tactic| (k_here; (with_reducible show wpAny _ _ (call (Value.builtin _) [Value.ref _, _]) _ _ _); k_dflt (refine' append_V ?k1 ?k2 ?k3 ?k4 ?_; (case k1 => k_asm); (case k2 => k_asm); (case k3 => assumption); (case k4 => omega); k_whole); intro h' F' N'; (try k_sweep)))

local macro_rules | `(tactic| walk_at "binaryOp Add str str") => `(tactic| (refine add_tab (by assumption) (by assumption) ?_; intro _ _))
local macro_rules | `(tactic| walk_at "eval ListComp") => `(tactic| (k_here; k_dflt (refine LCg.ListComp_U (F₀ := by k_asm) (by with_unfolding_all rfl) (by decide) (by rfl) (by decide) (by rfl) ?_)))
local macro_rules | `(tactic| walk_at "call builtin:list.index") => `(tactic| (k_here; k_dflt (refine index_name (by assumption) (by k_asm) (by k_mem) (by assumption) ?_)))
local macro_rules | `(tactic| walk_at "CompEnd") => `(tactic| refine Stop.i ?_)
local macro_rules | `(tactic| walk_at "CompSrc") => `(tactic| refine Stop.i ?_)
local macro_rules | `(tactic| k_all) => `(tactic| first | with_reducible assumption | ((rename ∀ q ∈ _, Prod.fst q < _ => hLt9); exact fun p hp => Nat.ne_of_lt (Nat.lt_succ_of_lt (hLt9 p hp))))
theorem powers_call {N : Nat} {t : Tok} {news : List (Addr × Obj)}
    (B : Below A₀ base outer h₀) (F : Fr h₀ L s.heap m) (X : (hd.heap_39 w.params).In h₀) (Nw : News h₀ L s.heap news) (T : Top p loose mean mg mb h₀) (hk : cs.kind = .function)
    (hN : N < 2 ^ 32) (hd' : dp + 40 < recursionLimit) (hu : un + 400 < cLine)
    (ret : ∀ D vs c h' tk', Fr h₀ L h' m → News h₀ L h' ((D, listOf vs.toArray c) :: news) → (∀ p ∈ news, p.1 ≠ D) → IntsAre vs ((bitsB N 32).map fun i => ((2 ^ i : Nat) : Int)) → Q (.ref D) { s with heap := h', toks := tk' }) :
    wpAny (model prog w) (ktrTop dp un gd cn cs L a ccd cl outer) (call (.ref 76) [.int (N : Int) t]) Q E s := by
  refine wpAny_call ?_
  k_dflt (walk_at "MINE enterC")
  walk_at "MINE go"
  refine Stop.o ?_
  rename News _ _ _ _ => nE
  rename Fr _ _ _ _ => fE
  rename IsRange _ _ _ _ _ _ _ _ => hR
  refine with_addr nE (fun D hD => ?_)
  subst hD
  refine with_L nE (fun L1 hL1 => ?_)
  subst hL1
  refine with_obj2 nE (fun oc hoc => ?_)
  subst hoc
  rename oc.data = _ => hcell
  rename ∀ p ∈ news, Prod.fst p < L1 => hlt
  rename _ ∧ _ => hlt2
  have hne : ∀ e ∈ (L1 + 1, oc) :: news, e.1 ≠ D := fun e he => by
    rcases List.mem_cons.mp he with rfl | he
    · exact Nat.ne_of_lt hlt2.1
    · exact Nat.ne_of_lt (Nat.lt_trans (Nat.lt_succ_of_lt (hlt e he)) hlt2.1)
  refine' kst_range (σ := List Value × Nat) (n := 22) (fun c => (D, listOf c.1.toArray c.2) :: (L1 + 1, oc) :: news) (fun _ => []) (fun _ => True) []
    (fun pre c => pre.length ≤ 22 ∧ c.1.length = 10 + pre.length ∧ StrsAre c.1 (allNames.take (10 + pre.length))) (_, 0) rfl hR (by decide +kernel) (by decide +kernel) fE nE trivial (fun _ h => nomatch h) ?zp ?zt ?zd
  case zp =>
    refine ⟨by decide, rfl, ?_⟩
    exact .cons _ _ (.cons _ _ (.cons _ _ (.cons _ _ (.cons _ _ (.cons _ _ (.cons _ _ (.cons _ _ (.cons _ _ (.cons _ _ .nil)))))))))
  case zt =>
    rintro ⟨its, nn⟩ pre k tk₁ u h tk own hk hpre hoff _ ⟨_, hlen, hits⟩ F1 N1
    dsimp only [List.cons_append] at F1 N1 hoff hlen hits
    have hk0 : 10 ≤ k := by omega
    have hk32 : k < 32 := by omega
    have hne2 : ∀ e ∈ (L1 + 1, oc) :: (news ++ own), e.1 ≠ D := fun e he => by
      rcases List.mem_cons.mp he with rfl | he
      · exact hne _ (.head _)
      · rcases List.mem_append.mp he with h' | h'
        · exact hne _ (.tail _ h')
        · exact hoff e h' D (.head _)
    (try k_fold)
    walk_at "MINE go"
    refine Stop.o ?_
    rename News _ _ _ _ => nF
    rename Fr _ _ _ _ => fF
    have ek : k.toNat = 10 + pre.length := by omega
    rw [ek] at nF
    refine' kst_end (its ++ [.str (nameStr (10 + pre.length)) _], _) fF nF ?zn ?zo ?za trivial ?zk ?zr ?zp
    case zn =>
      intro p hp
      rcases List.mem_cons.mp hp with rfl | hp
      · exact .head _
      · rcases List.mem_cons.mp hp with rfl | hp
        · exact .tail _ (.head _)
        · exact .tail _ (.tail _ (List.mem_append_left _ hp))
    case zo => exact fun p hp => .tail _ (.tail _ (List.mem_append_right _ hp))
    case za => rfl
    case zk => exact fun _ h => nomatch h
    case zr =>
      intro z h1 h2 h3
      simp [h1, kstB]
    case zp =>
      rw [List.length_append, List.length_singleton]
      refine ⟨by omega, by rw [List.length_append, List.length_singleton]; omega, ?_⟩
      have e : allNames.take (10 + (pre.length + 1)) = allNames.take (10 + pre.length) ++ [nameStr (10 + pre.length)] := by
        rw [← Nat.add_assoc, List.take_add_one]
        have hl : 10 + pre.length < allNames.length := by show _ < 32; omega
        rw [List.getElem?_eq_getElem hl]
        unfold nameStr
        rw [List.getD_eq_getElem?_getD, List.getElem?_eq_getElem hl]
        rfl
      rw [e]
      exact kct_snoc hits
  case zd =>
    rintro ⟨its, nn⟩ u h tk _ ⟨_, hlen, hits⟩ F1 N1
    dsimp only at F1 N1 hlen hits
    rw [rangeKs_length] at hits hlen
    rw [show allNames.take (10 + 22) = allNames from rfl] at hits
    (try k_fold)
    walk_at "MINE go"
    refine Stop.o ?_
    refine pretty_call (by k_asm) (by k_asm) (by k_asm) N1 (by k_asm) rfl hN (by show dp + 1 + 20 < recursionLimit; omega) (by show un + 3 + 200 < cLine; omega) ?_
    intro h' tk' t' F2 N2
    (try k_fold)
    walk_at "MINE go"
    · rename (_ == _) = true => hx
      have hN0 := (pf_nought hN).mp (eq_of_beq hx)
      rename _ ∧ _ => hl3
      refine ret _ [] 0 _ _ (by k_asm) (kst_newsOf (by k_asm) fun p hp => ?_) (fun p hp => Nat.ne_of_lt (Nat.lt_trans (hlt p hp) (Nat.lt_of_succ_lt hl3.2.1))) ?_
      · rcases List.mem_cons.mp hp with rfl | hp
        · exact .head _
        · exact .tail _ (.tail _ (.tail _ hp))
      · rw [hN0, show bitsB 0 32 = [] from by decide]
        exact .nil
    · rename (_ == _) = false => hx
      have hN0 : N ≠ 0 := fun e => by rw [(pf_nought hN).mpr e] at hx; simp at hx
      rename News _ _ _ _ => nF
      rename Fr _ _ _ _ => fF
      refine KSpl.split1 fF nF (by decide +kernel) (fun D2 wl h2 k2 ewl sawl F3 N3 hlt3 => ?_) (by have := pfText_len N; rw [sizeLine_eq]; omega)
      rw [pf_split hN] at ewl
      have ewl2 : wl.map (·.1) = (bitsB N 32).map nameStr := by rw [ewl]; unfold pfNames; rw [if_neg hN0]
      have hwlen : wl.length = (bitsB N 32).length := by
        have := congrArg List.length ewl2
        simpa using this
      have hb32 : (bitsB N 32).length ≤ 32 := by
        unfold bitsB
        exact Nat.le_trans (List.length_filter_le ..) (by simp)
      have hsz : (strValues wl).toArray.size = (bitsB N 32).length := by rw [List.size_toArray, strValues, List.length_map, hwlen]
      refine LCg.CompSrc.ledger rfl F3 N3 (.head _) (by rw [hsz, sizeLine_eq]; omega) (fun g => ?_)
      rw [hsz]
      refine compRest_of (fun i ys nw => nw = (D2, listOf (strValues wl).toArray 0) :: (D, listOf its.toArray nn) :: (L1 + 1, oc) :: news ∧ IntsAre ys (((bitsB N 32).take i).map fun i => ((2 ^ i : Nat) : Int))) ⟨rfl, .nil⟩ ?_ ?_
      · rintro i ys nw v I oI C oC D3 m₂ h tk E' hi ⟨rfl, hy⟩ hv hC hx Fc Nc off ne'
        have hwi : i < wl.length := by rw [hwlen]; exact hi
        have hvi : v = .str (nameStr ((bitsB N 32)[i])) wl[i].2 := by
          have h1 : (strValues wl).toArray[i]? = some (.str wl[i].1 wl[i].2) := by simp [strValues, hwlen, hi]
          rw [h1] at hv
          have h2 : wl[i].1 = nameStr ((bitsB N 32)[i]) := by
            have := congrArg (fun l => l[i]?) ewl2
            simp only [List.getElem?_map, List.getElem?_eq_getElem hi, List.getElem?_eq_getElem hwi, Option.map_some] at this
            exact Option.some.inj this
          rw [← h2]
          exact (Option.some.inj hv).symm
        have hbi : (bitsB N 32)[i] < 32 := bitsB_lt (List.getElem_mem hi)
        subst hvi
        (try k_fold)
        walk_at "MINE go"
        refine Stop.o (LCg.CompEnd.intro (by k_asm) (by k_asm) _ (fun p hp => hp) off (.inr ⟨_, .head _, rfl, _, rfl⟩) ⟨rfl, ?_⟩)
        rw [List.take_add_one, List.getElem?_eq_getElem hi, List.map_append]
        have e : (2 : Int) ^ (((bitsB N 32)[i] : Nat) : Int).toNat = ((2 ^ (bitsB N 32)[i] : Nat) : Int) := by
          rw [Int.toNat_natCast, Int.natCast_pow]; rfl
        rw [e]
        exact ints_snoc hy
      · rintro ys nw ⟨rfl, hy⟩
        intro D4 h4 tk4 F4 N4 o4
        rw [List.take_length] at hy
        (try k_fold)
        walk_at "MINE go"
        rename News h₀ _ _ _ => nG
        rename Fr h₀ _ _ _ => fG
        refine ret D4 ys ys.length _ _ (by k_asm) (kst_newsOf (l' := (D4, listOf ys.toArray ys.length) :: news) nG fun p hp => ?_) (fun p hp => ?_) hy
        · rcases List.mem_cons.mp hp with rfl | hp
          · exact .head _
          · exact .tail _ (.tail _ (.tail _ (.tail _ hp)))
        · exact off1_mem o4 p (.tail _ (.tail _ (.tail _ hp)))
theorem powers_callI {k : Int} {N : Nat} {t : Tok} {news : List (Addr × Obj)} (e : k = (N : Int))
    (B : Below A₀ base outer h₀) (F : Fr h₀ L s.heap m) (X : (hd.heap_39 w.params).In h₀) (Nw : News h₀ L s.heap news) (T : Top p loose mean mg mb h₀) (hk : cs.kind = .function)
    (hN : N < 2 ^ 32) (hd' : dp + 40 < recursionLimit) (hu : un + 400 < cLine)
    (ret : ∀ D vs c h' tk', Fr h₀ L h' m → News h₀ L h' ((D, listOf vs.toArray c) :: news) → (∀ p ∈ news, p.1 ≠ D) → IntsAre vs ((bitsB N 32).map fun i => ((2 ^ i : Nat) : Int)) → Q (.ref D) { s with heap := h', toks := tk' }) :
    wpAny (model prog w) (ktrTop dp un gd cn cs L a ccd cl outer) (call (.ref 76) [.int k t]) Q E s := by
  subst e
  exact powers_call B F X Nw T hk hN hd' hu ret
end
end Mine
end
section
open PySem PySem.Calls PySem.W PyProof.Rows
set_option Elab.async false
set_option maxRecDepth 100000
set_option maxHeartbeats 4000000
namespace Mine
theorem fillDummyCell (w : World) (h : Heap) (_ : PySem.Challenge.rw_pm0017_01.Holds → (hd.heap_39 w.params).In h) : True := by
  have z : PySem.Challenge.rw_pm0017_01.Holds → (hd.heap_39 w.params).In h → True := by
    k_fill
    w_top off
    intro _ _; trivial
  trivial
section
variable {prog : Program} {w : World} {p : Program} {loose : List Str} {mean : ExcName → Option Value} {mg mb : Str → Option Value}
  {dp un : Nat} {gd : Option (List Code)} {cn : Str} {cs : Scope} {a : Addr} {ccd : Value} {cl : List (Str × Addr)} {outer : List Env} {A₀ : Around} {base h₀ : Heap} {L : Addr} {m : Str → Option Value} {s : Shared}
  {Q E : Value → Shared → Prop} {H : Addr} {n : Nat} {tl : List (Addr × Obj)}
local macro_rules | `(tactic| walk_at "MINE go") => `(tactic| repeat' ((fail_if_success (with_reducible show Stop _)); (first | (k_unfold; (try dsimp only)) | (k_end; wrow_close) | walk1 | (dsimp only; walk1) | (leave1; walk_say "STEP leave1"; try dsimp only) | fail "no step")))
theorem cell_call {l : Addr} {vs : List Value} {ns : List Int} {t : Tok}
    (B : Below A₀ base outer h₀) (F : Fr h₀ L s.heap m) (X : (hd.heap_39 w.params).In h₀) (N : News h₀ L s.heap tl) (T : Top p loose mean mg mb h₀) (hk : cs.kind = .function)
    (hl : h₀.IsList l vs.toArray) (hi : IntsAre vs ns) (hz : ¬ (63 : Int) < (ns.length : Int)) (hd' : dp + 20 < recursionLimit) (hu : un + 100 < cLine)
    (ret : ∀ k t' h' tk', Fr h₀ L h' m → News h₀ L h' tl → Q (.int k t') { s with heap := h', toks := tk' }) :
    wpAny (model prog w) (ktrTop dp un gd cn cs L a ccd cl outer) (call (.ref 71) [.ref l, .int 4 t]) Q E s := by
  refine wpAny_call ?_
  k_dflt ktr_enter
  rename Fr h₀ L _ m => fg
  have hl' := hl.at fun o e => fg.keep _ o e
  walk_at "MINE go"
  all_goals exact ret _ _ _ _ (by k_asm) (by k_asm)
end
end Mine
end
section
open PySem PySem.Calls PySem.W PyProof.Rows
set_option Elab.async false
set_option maxRecDepth 100000
set_option maxHeartbeats 4000000
namespace Mine
def numOf (x sh : Int) : Nat := x.natAbs % 128 * 2 ^ (sh.fmod 22).toNat
theorem num_eq (x sh : Int) : (if x < 0 then -x else x).fmod 128 * 2 ^ (sh.fmod 22).toNat = ((numOf x sh : Nat) : Int) := by
  have e : (if x < 0 then -x else x) = ((x.natAbs : Nat) : Int) := by split <;> omega
  rw [e]
  unfold numOf
  rw [Int.natCast_mul, Int.natCast_pow, Int.fmod_eq_emod_of_nonneg _ (by decide)]
  rfl
theorem sh_lt (sh : Int) : (sh.fmod 22).toNat < 22 := by
  have h := Int.fmod_lt_of_pos sh (show (0:Int) < 22 by decide)
  have h2 := Int.fmod_nonneg_of_pos sh (show (0:Int) < 22 by decide)
  omega
theorem numOf_lt (x sh : Int) : numOf x sh < 2 ^ 32 := by
  unfold numOf
  have h1 : 2 ^ (sh.fmod 22).toNat ≤ 2 ^ 21 := Nat.pow_le_pow_right (by decide) (by have := sh_lt sh; omega)
  have h2 : x.natAbs % 128 ≤ 127 := by omega
  have h3 := Nat.mul_le_mul h2 h1
  exact Nat.lt_of_le_of_lt h3 (by decide)

def PowP (p : Int × Int) : Prop := ∃ j : Nat, p.1 = ((2 ^ j : Nat) : Int) ∧ (p.2 = ((2 ^ j : Nat) : Int) ∨ p.2 = -((2 ^ j : Nat) : Int))
structure HS where
  items : List Value
  n : Nat
  o : Obj
  key : Value → Int × Int
  total : Int
  tt : Tok
def vsum (key : Value → Int × Int) (l : List Value) : Int := (l.map fun v => (key v).2).sum
theorem vsum_app (key : Value → Int × Int) (a b : List Value) : vsum key (a ++ b) = vsum key a + vsum key b := by
  unfold vsum; rw [List.map_append, List.sum_append]
theorem vsum_cons (key : Value → Int × Int) (v : Value) (b : List Value) : vsum key (v :: b) = (key v).2 + vsum key b := by
  unfold vsum; rw [List.map_cons, List.sum_cons]
theorem vsum_congr {key key' : Value → Int × Int} : ∀ {l : List Value}, (∀ v ∈ l, key' v = key v) → vsum key' l = vsum key l
  | [], _ => rfl
  | v :: l, h => by rw [vsum_cons, vsum_cons, h v (.head _), vsum_congr fun u hu => h u (.tail _ hu)]
theorem vsum_perm {key : Value → Int × Int} {a b : List Value} (h : a.Perm b) : vsum key a = vsum key b := by
  induction h with
  | nil => rfl
  | cons x _ ih => rw [vsum_cons, vsum_cons, ih]
  | swap x y l => rw [vsum_cons, vsum_cons, vsum_cons, vsum_cons]; omega
  | trans _ _ h1 h2 => exact h1.trans h2
structure HP (sh : Int) (pre : List Int) (c : HS) : Prop where
  len : c.items.length ≤ 32 * pre.length
  sum : vsum c.key c.items = c.total
  bound : c.total.natAbs ≤ (pre.map fun x => x.natAbs % 128).sum * 2 ^ (sh.fmod 22).toNat
  pow : ∀ v ∈ c.items, PowP (c.key v)

theorem bits_sum : ∀ (k N : Nat), ((bitsB N k).map fun i => ((2 ^ i : Nat) : Int)).sum = ((N % 2 ^ k : Nat) : Int)
  | 0, N => by rw [Nat.pow_zero, Nat.mod_one]; rfl
  | k + 1, N => by
    rw [bitsB_succ, List.map_append, List.sum_append, bits_sum k N]
    have h : N % 2 ^ (k + 1) = N % 2 ^ k + 2 ^ k * (N / 2 ^ k % 2) := Nat.mod_pow_succ
    rw [h]
    have hb : N.testBit k = decide (N / 2 ^ k % 2 = 1) := Nat.testBit_eq_decide_div_mod_eq
    rw [hb]
    have h2 : N / 2 ^ k % 2 = 0 ∨ N / 2 ^ k % 2 = 1 := by omega
    rcases h2 with h2 | h2 <;> rw [h2] <;> simp
theorem bits_len (N : Nat) : (bitsB N 32).length ≤ 32 := by
  unfold bitsB
  exact Nat.le_trans (List.length_filter_le ..) (by simp)
theorem hp_step {sh : Int} {pre : List Int} {c : HS} {x sg : Int} {ys : List Value} {n' : Nat} {o' : Obj} {key' : Value → Int × Int} {tt' : Tok} (h : HP sh pre c) (hsg : sg = 1 ∨ sg = -1)
    (hy : ys.map key' = (bitsB (numOf x sh) 32).map fun i => (((2 ^ i : Nat) : Int), sg * ((2 ^ i : Nat) : Int))) (hk : ∀ v ∈ c.items, key' v = c.key v) :
    HP sh (pre ++ [x]) ⟨c.items ++ ys, n', o', key', c.total + sg * (numOf x sh : Int), tt'⟩ := by
  have hl : ys.length ≤ 32 := by
    have := congrArg List.length hy
    rw [List.length_map, List.length_map] at this
    rw [this]; exact bits_len _
  have hs : vsum key' ys = sg * (numOf x sh : Int) := by
    have e : ys.map (fun v => (key' v).2) = (bitsB (numOf x sh) 32).map fun i => sg * ((2 ^ i : Nat) : Int) := by
      have := congrArg (List.map Prod.snd) hy
      simpa only [List.map_map, Function.comp_def] using this
    unfold vsum
    rw [e]
    have h2 : ∀ l : List Nat, (l.map fun i => sg * ((2 ^ i : Nat) : Int)).sum = sg * (l.map fun i => ((2 ^ i : Nat) : Int)).sum := by
      intro l
      induction l with
      | nil => simp
      | cons a l ih => rw [List.map_cons, List.map_cons, List.sum_cons, List.sum_cons, ih, Int.mul_add]
    rw [h2, bits_sum, Nat.mod_eq_of_lt (numOf_lt x sh)]
  refine ⟨?_, ?_, ?_, ?_⟩
  · have := h.len
    simp only [List.length_append, List.length_singleton]
    omega
  · show vsum key' (c.items ++ ys) = _
    rw [vsum_app, hs, vsum_congr hk, h.sum]
  · show (c.total + sg * (numOf x sh : Int)).natAbs ≤ _
    have hb := h.bound
    rw [List.map_append, List.sum_append, Nat.add_mul]
    have e : (List.map (fun x : Int => x.natAbs % 128) [x]).sum * 2 ^ (sh.fmod 22).toNat = numOf x sh := by
      unfold numOf; simp
    rw [e]
    have e2 : (sg * (numOf x sh : Int)).natAbs = numOf x sh := by
      rcases hsg with rfl | rfl <;> omega
    omega
  · intro v hv
    show PowP (key' v)
    rcases List.mem_append.mp hv with hv | hv
    · rw [hk v hv]; exact h.pow v hv
    · have hm : key' v ∈ ys.map key' := List.mem_map_of_mem hv
      rw [hy] at hm
      obtain ⟨i, _, e⟩ := List.mem_map.mp hm
      rw [← e]
      rcases hsg with rfl | rfl
      · exact ⟨i, rfl, .inl (Int.one_mul _)⟩
      · exact ⟨i, rfl, .inr (by show -1 * _ = _; omega)⟩

def ext (key : Value → Int × Int) (a : Addr) (p : Int × Int) : Value → Int × Int := fun v => match v with
  | .ref b => if b = a then p else key v
  | _ => key v
theorem ext_self {key : Value → Int × Int} {a : Addr} {p : Int × Int} : ext key a p (.ref a) = p := by
  show (if a = a then p else _) = p
  rw [if_pos rfl]
theorem ext_old {key : Value → Int × Int} {a : Addr} {p : Int × Int} {tl : List (Addr × Obj)} {v : Value} (h : IsP tl key v) (hn : ∀ q ∈ tl, q.1 ≠ a) : ext key a p v = key v := by
  obtain ⟨b, _, _, _, rfl, hm⟩ := h
  show (if b = a then p else _) = _
  rw [if_neg (hn _ hm)]
theorem isP_ext {key : Value → Int × Int} {a : Addr} {p : Int × Int} {tl tl' : List (Addr × Obj)} {v : Value} (h : IsP tl key v) (hn : ∀ q ∈ tl, q.1 ≠ a) (hs : ∀ q ∈ tl, q ∈ tl') : IsP tl' (ext key a p) v := by
  have e := ext_old (p := p) h hn
  unfold IsP
  rw [e]
  exact PairIn.mono h hs
theorem isP_new {key : Value → Int × Int} {a : Addr} {x y : Int} {t1 t2 : Tok} {n : Nat} {tl : List (Addr × Obj)} (hm : (a, tup2 x y t1 t2 n) ∈ tl) : IsP tl (ext key a (x, y)) (.ref a) := by
  unfold IsP
  rw [ext_self]
  exact ⟨a, t1, t2, n, rfl, hm⟩

abbrev RBase (D2 H D : Addr) (X : Addr × Obj) (o2 oh od : Obj) (rest : List (Addr × Obj)) : List (Addr × Obj) := (D2, o2) :: (H, oh) :: X :: (D, od) :: rest
structure RHeap (x sh sg : Int) (H D D2 : Addr) (X : Addr × Obj) (od : Obj) (own tl : List (Addr × Obj)) (items : List Value) (key : Value → Int × Int) (i : Nat) (ys : List Value) (add : List (Addr × Obj)) (key' : Value → Int × Int) : Prop where
  off : ∀ q ∈ add, q.1 ≠ H ∧ q.1 ≠ X.1 ∧ q.1 ≠ D ∧ q.1 ≠ D2 ∧ ∀ p ∈ own, p.1 ≠ q.1
  ysK : ys.map key' = ((bitsB (numOf x sh) 32).take i).map fun i => (((2 ^ i : Nat) : Int), sg * ((2 ^ i : Nat) : Int))
  ysP : ∀ v ∈ ys, IsP ((D, od) :: (add ++ tl)) key' v
  itP : ∀ v ∈ items, IsP ((D, od) :: (add ++ tl)) key' v
  itK : ∀ v ∈ items, key' v = key v

theorem allLt_mem {d : Addr} : ∀ {l : List (Addr × Obj)}, AllLt d l → ∀ p ∈ l, p.1 < d
  | [], _, _, h => nomatch h
  | _ :: _, x, p, h => by
    rcases List.mem_cons.mp h with rfl | h
    · exact x.1
    · exact allLt_mem x.2 p h
theorem rheap_step {x sh sg : Int} {H D D2 : Addr} {X : Addr × Obj} {od : Obj} {own tl : List (Addr × Obj)} {items : List Value} {key : Value → Int × Int} {i : Nat} {ys : List Value} {add : List (Addr × Obj)} {key' : Value → Int × Int} {a : Addr} {t1 t2 : Tok}
    (h : RHeap x sh sg H D D2 X od own tl items key i ys add key') (hi : i < (bitsB (numOf x sh) 32).length) (hH : H < a) (hX : X.1 < a) (hD : D < a) (hD2 : D2 < a) (hal : ∀ q ∈ add ++ (tl ++ own), q.1 < a) :
    RHeap x sh sg H D D2 X od own tl items key (i + 1) (ys ++ [.ref a])
      ((a, tup2 ((2 ^ (bitsB (numOf x sh) 32)[i] : Nat) : Int) (sg * ((2 ^ (bitsB (numOf x sh) 32)[i] : Nat) : Int)) t1 t2 0) :: add) (ext key' a (((2 ^ (bitsB (numOf x sh) 32)[i] : Nat) : Int), sg * ((2 ^ (bitsB (numOf x sh) 32)[i] : Nat) : Int))) := by
  have off : ∀ q ∈ (D, od) :: (add ++ tl), q.1 ≠ a := by
    intro q hq
    rcases List.mem_cons.mp hq with rfl | hq
    · exact Nat.ne_of_lt hD
    · rcases List.mem_append.mp hq with hq | hq
      · exact Nat.ne_of_lt (hal q (List.mem_append_left _ hq))
      · exact Nat.ne_of_lt (hal q (List.mem_append_right _ (List.mem_append_left _ hq)))
  have sub : ∀ (e : Addr × Obj), ∀ q ∈ (D, od) :: (add ++ tl), q ∈ (D, od) :: ((e :: add) ++ tl) := by
    intro e q hq
    rcases List.mem_cons.mp hq with rfl | hq
    · exact .head _
    · exact .tail _ (.tail _ hq)
  refine ⟨?_, ?_, ?_, ?_, ?_⟩
  · intro q hq
    rcases List.mem_cons.mp hq with rfl | hq
    · exact ⟨Nat.ne_of_gt hH, Nat.ne_of_gt hX, Nat.ne_of_gt hD, Nat.ne_of_gt hD2, fun p hp => Nat.ne_of_lt (hal p (List.mem_append_right _ (List.mem_append_right _ hp)))⟩
    · exact h.off q hq
  · rw [List.map_append, List.map_singleton, ext_self, List.take_add_one, List.getElem?_eq_getElem hi, List.map_append]
    have e : ys.map (ext key' a (((2 ^ (bitsB (numOf x sh) 32)[i] : Nat) : Int), sg * ((2 ^ (bitsB (numOf x sh) 32)[i] : Nat) : Int))) = ys.map key' := List.map_congr_left fun v hv => ext_old (h.ysP v hv) off
    rw [e, h.ysK]
    rfl
  · intro v hv
    rcases List.mem_append.mp hv with hv | hv
    · exact isP_ext (h.ysP v hv) off (sub _)
    · rw [List.mem_singleton.mp hv]
      exact isP_new (.tail _ (.head _))
  · exact fun v hv => isP_ext (h.itP v hv) off (sub _)
  · exact fun v hv => (ext_old (h.itP v hv) off).trans (h.itK v hv)
theorem off3_of {I C D : Addr} : ∀ {l : List (Addr × Obj)}, (∀ p ∈ l, p.1 ≠ I ∧ p.1 ≠ C ∧ p.1 ≠ D) → LCg.Off3 I C D l
  | [], _ => trivial
  | p :: _, h => ⟨h p (.head _), off3_of fun q hq => h q (.tail _ hq)⟩
theorem comp_off {I C D3 D2 H D a : Addr} {X : Addr × Obj} {o2 oh od o : Obj} {add r : List (Addr × Obj)} (h : LCg.Off3 I C D3 (RBase D2 H D X o2 oh od (add ++ r))) (h1 : I < a) (h2 : C < a) (h3 : D3 < a) :
    LCg.Off3 I C D3 (RBase D2 H D X o2 oh od (((a, o) :: add) ++ r)) := by
  refine off3_of fun p hp => ?_
  have hm := h.mem
  rcases List.mem_cons.mp hp with rfl | hp
  · exact hm _ (.head _)
  · rcases List.mem_cons.mp hp with rfl | hp
    · exact hm _ (.tail _ (.head _))
    · rcases List.mem_cons.mp hp with rfl | hp
      · exact hm _ (.tail _ (.tail _ (.head _)))
      · rcases List.mem_cons.mp hp with rfl | hp
        · exact hm _ (.tail _ (.tail _ (.tail _ (.head _))))
        · rcases List.mem_cons.mp hp with rfl | hp
          · exact ⟨Nat.ne_of_gt h1, Nat.ne_of_gt h2, Nat.ne_of_gt h3⟩
          · exact hm _ (.tail _ (.tail _ (.tail _ (.tail _ hp))))
theorem comp_sub {e1 e2 e3 t : Addr × Obj} {D2 H D : Addr} {X : Addr × Obj} {o2 oh od : Obj} {add r : List (Addr × Obj)} : ∀ p ∈ e1 :: e2 :: e3 :: RBase D2 H D X o2 oh od ((t :: add) ++ r), p ∈ t :: e1 :: e2 :: e3 :: RBase D2 H D X o2 oh od (add ++ r) := by
  intro p hp
  simp only [List.mem_cons, RBase, List.cons_append] at hp ⊢
  rcases hp with h | h | h | h | h | h | h | h | h <;> simp [h]

theorem comp_sub2 {D4 D2 H D : Addr} {X : Addr × Obj} {o2 oh od o4 : Obj} {add r : List (Addr × Obj)} : ∀ p ∈ (H, oh) :: X :: (D, od) :: (D4, o4) :: (add ++ r), p ∈ (D4, o4) :: RBase D2 H D X o2 oh od (add ++ r) := by
  intro p hp
  simp only [List.mem_cons, RBase] at hp ⊢
  rcases hp with h | h | h | h | h <;> simp [h]
theorem ns_len7 {k : Nat} {l : List Int} (h : k ≤ 32 * ([23, -6, 11] ++ List.take 4 l).length) : k ≤ 224 := by
  simp only [List.length_append, List.length_cons, List.length_nil, List.length_take] at h
  omega
theorem whole_lt {sh total : Int} {l : List Int} (h : total.natAbs ≤ (([23, -6, 11] ++ List.take 4 l).map fun x : Int => x.natAbs % 128).sum * 2 ^ (sh.fmod 22).toNat) : 3 * total.natAbs < 2 ^ 32 := by
  have h1 : (2 : Nat) ^ (sh.fmod 22).toNat ≤ 2 ^ 21 := Nat.pow_le_pow_right (by decide) (by have := sh_lt sh; omega)
  have h2 : ∀ l : List Int, (l.map fun x : Int => x.natAbs % 128).sum ≤ 127 * l.length := by
    intro l
    induction l with
    | nil => simp
    | cons a l ih => rw [List.map_cons, List.sum_cons, List.length_cons]; omega
  have h3 := h2 (List.take 4 l)
  rw [List.length_take] at h3
  rw [List.map_append, List.sum_append] at h
  have h4 : (List.map (fun x : Int => x.natAbs % 128) [23, -6, 11]).sum = 40 := by decide
  rw [h4] at h
  have h5 : 40 + ((List.take 4 l).map fun x : Int => x.natAbs % 128).sum ≤ 548 := by omega
  have h6 := Nat.mul_le_mul h5 h1
  have h7 : 548 * 2 ^ 21 = 1149239296 := by decide
  omega
theorem bits_split {N : Nat} {f : Nat → Int} {pre post : List Int} {x : Int} (h : (bitsB N 32).map f = pre ++ x :: post) : pre.length ≤ 32 := by
  have h1 := congrArg List.length h
  rw [List.length_map, List.length_append, List.length_cons] at h1
  have := bits_len N
  omega
theorem ns_len {l : List Int} {pre post : List Int} {x : Int} (h : [23, -6, 11] ++ List.take 4 l = pre ++ x :: post) : pre.length ≤ 6 := by
  have h1 := congrArg List.length h
  simp only [List.length_append, List.length_cons, List.length_nil, List.length_take] at h1
  omega

section
variable {prog : Program} {w : World} {A : Around} {E : Value → Shared → Prop} {s : Shared} {h₀ : Heap} {L H b : Addr} {m : Str → Option Value} {tl : List (Addr × Obj)} {n n2 : Nat}
theorem extend_V {items ys : List Value} {Q : Value → Shared → Prop} (F : Fr h₀ L s.heap m) (N : News h₀ L s.heap ((H, listOf items.toArray n) :: tl)) (hH : ∀ p ∈ tl, p.1 ≠ H) (hb : (b, listOf ys.toArray n2) ∈ tl) (hz : items.length ≤ 900) (hz2 : ys.length ≤ 900)
    (h : ∀ h' n', Fr h₀ L h' m → News h₀ L h' ((H, listOf (items ++ ys).toArray n') :: tl) → Q .none { s with heap := h' }) : wpAny (model prog w) A (call (.builtin "list.extend") [.ref H, .ref b]) Q E s := by
  have e1 : items.toArray.size = items.length := List.size_toArray ..
  have e2 : ys.toArray.size = ys.length := List.size_toArray ..
  have hd : ¬(!items.toArray.isEmpty && Builtin.List.listTooLong (items.toArray.size + ys.toArray.size)) = true := by
    have : Builtin.List.listTooLong (items.toArray.size + ys.toArray.size) = false := by
      unfold Builtin.List.listTooLong
      simp only [e1, e2]
      apply decide_eq_false
      intro h
      rw [sizeLine_eq] at h
      omega
    rw [this]; simp
  have h1 : items.toArray.toList.length ≤ sizeLine := by rw [sizeLine_eq]; simp; omega
  have h2 : items.toArray.size + ys.toArray.size ≤ sizeLine + 1 := by rw [sizeLine_eq, e1, e2]; omega
  by_cases hy : ys = []
  · subst hy
    refine kxn_extend F N (.tail _ hb) rfl (Upd.head hH) hd h1 h2 fun h' F' N' => h h' n F' ?_
    rw [List.append_nil]; exact N'
  · exact kl_extend F N (.tail _ hb) (l := items ++ ys) (by simp) (by simp [hy]) (Upd.head hH) hd h1 h2 fun h' F' N' => h h' (n + 1) F' N'
theorem truthy_T {items : List Value} {news : List (Addr × Obj)} {Q : Bool → Shared → Prop} (N : News h₀ L s.heap news) (hm : (H, listOf items.toArray n) ∈ news) (hp : 0 < items.length) (hz : items.length ≤ 900)
    (h : Q true { s with toks := s.toks + 1 + 1 }) : wpAny (model prog w) A (truthy (.ref H)) Q E s :=
  truthy_V N hm (by omega) (by rw [decide_eq_true hp]; exact h)
theorem truthy_F {items : List Value} {news : List (Addr × Obj)} {Q : Bool → Shared → Prop} (N : News h₀ L s.heap news) (hm : (H, listOf items.toArray n) ∈ news) (hp : ¬ 0 < items.length)
    (h : Q false { s with toks := s.toks + 1 + 1 }) : wpAny (model prog w) A (truthy (.ref H)) Q E s :=
  truthy_V N hm (by omega) (by rw [decide_eq_false hp]; exact h)
theorem get0_V {value slice : PySem.Expr} {items : List Value} {news : List (Addr × Obj)} {u : Tok} {v : Value} {Q : Value → Shared → Prop} (N : News h₀ L s.heap news) (hm : (H, listOf items.toArray n) ∈ news)
    (hp : 0 < items.length) (hv : items.getD 0 .none = v) (h : Q v s)
    (hs : subscripted slice false (.ref H) (.int 0 u) = operate [.ref H, .int 0 u] (getItem (.ref H) (.int 0 u)) := by with_unfolding_all rfl) :
    wpAny (model prog w) A (subscriptTail value slice (.ref H) (.int 0 u)) Q E s :=
  get_V N hm (Int.le_refl 0) (by omega) (by decide) (by rw [show Int.toNat 0 = 0 from rfl, hv]; exact h) hs
theorem append_I {tv : List Value} {ds : List Int} {k : Int} {t : Tok} {Q : Value → Shared → Prop} (hds : IntsAre tv ds) (F : Fr h₀ L s.heap m) (N : News h₀ L s.heap ((H, listOf tv.toArray n) :: tl)) (hH : ∀ p ∈ tl, p.1 ≠ H) (hz : ds.length ≤ 900)
    (h : ∀ h' tv', IntsAre tv' (ds ++ [k]) → Fr h₀ L h' m → News h₀ L h' ((H, listOf tv'.toArray (n + 1)) :: tl) → Q .none { s with heap := h' }) : wpAny (model prog w) A (call (.builtin "list.append") [.ref H, .int k t]) Q E s :=
  append_V F N hH (by rw [hds.length]; omega) fun h' F' N' => h h' _ (ints_snoc hds) F' N'
theorem with_tup {h : Heap} {a : Addr} {x y : Int} {t1 t2 : Tok} {r : List (Addr × Obj)} {P : Prop} (N : News h₀ L h ((a, tup2 x y t1 t2 n) :: r)) (k : ∀ a' t1' t2', a' = a → News h₀ L h ((a', tup2 x y t1' t2' n) :: r) → P) : P := k a t1 t2 rfl N
end
end Mine
end
section
open PySem PySem.Calls PySem.W PyProof.Rows
set_option Elab.async false
set_option maxRecDepth 100000
set_option maxHeartbeats 4000000
namespace Mine
structure Naf (ds : List Int) : Prop where
  gap : ds.Pairwise fun a b => 4 * a.natAbs ≤ b.natAbs
  pow : ∀ d ∈ ds, ∃ j : Nat, d.natAbs = 2 ^ j
theorem Naf.nil : Naf [] := ⟨.nil, fun _ h => nomatch h⟩
theorem Naf.snoc {ds : List Int} {x : Int} {j : Nat} (h : Naf ds) (hx : x.natAbs = 2 ^ j) (hg : ∀ d ∈ ds, 4 * d.natAbs ≤ x.natAbs) : Naf (ds ++ [x]) := by
  refine ⟨List.pairwise_append.mpr ⟨h.gap, List.pairwise_singleton _ _, fun a ha b hb => ?_⟩, fun d hd => ?_⟩
  · rw [List.mem_singleton.mp hb]; exact hg a ha
  · rcases List.mem_append.mp hd with hd | hd
    · exact h.pow d hd
    · rw [List.mem_singleton.mp hd]; exact ⟨j, hx⟩
def one (held : Int) : Nat := if held = 0 then 0 else 1
theorem one_zero : one 0 = 0 := rfl
theorem one_ne {held : Int} (h : held ≠ 0) : one held = 1 := if_neg h
theorem one_le (held : Int) : one held ≤ 1 := by unfold one; split <;> omega
structure MS where
  items : List Value
  n : Nat
  tv : List Value
  tn : Nat
  ds : List Int
  held : Int
  ht : Tok
  key : Value → Int × Int
  tl : List (Addr × Obj)
structure Good (T : Int) (key : Value → Int × Int) (items : List Value) (ds : List Int) (held : Int) : Prop where
  heap : HeapFrom (ltK key) .none 0 items
  pow : ∀ v ∈ items, PowP (key v)
  sum : vsum key items + held + ds.sum = T
  hpow : held = 0 ∨ ∃ j : Nat, held.natAbs = 2 ^ j
  naf : Naf ds
  far : ∀ d ∈ ds, (held ≠ 0 → 4 * d.natAbs ≤ held.natAbs) ∧ ∀ v ∈ items, 4 * d.natAbs ≤ (key v).1.natAbs
  big : ∀ v ∈ items, 2 * held.natAbs ≤ (key v).1.natAbs
  len : items.length + ds.length + one held ≤ 600
def mu (items : List Value) (held : Int) : Nat := 2 * items.length + one held
theorem PowP.pos {p : Int × Int} (h : PowP p) : 0 < p.1 := by
  obtain ⟨j, e, _⟩ := h
  rw [e]
  exact Int.ofNat_lt.mpr (Nat.two_pow_pos j)
theorem PowP.two {p : Int × Int} (h : PowP p) : p.2 = p.1 ∨ p.2 = -p.1 := by
  obtain ⟨j, e, e2⟩ := h
  rw [e]; exact e2
theorem PowP.nat {p : Int × Int} (h : PowP p) : ∃ j : Nat, p.1.natAbs = 2 ^ j := by
  obtain ⟨j, e, _⟩ := h
  exact ⟨j, by rw [e]; rfl⟩
theorem ordK (key : Value → Int × Int) : Ord (ltK key) := by
  refine ⟨fun a b c => ?_, fun a b => ?_⟩
  · unfold ltK ltP
    generalize key a = x
    generalize key b = y
    generalize key c = z
    intro h1 h2
    simp only [Bool.or_eq_false_iff, Bool.and_eq_false_iff, decide_eq_false_iff_not] at h1 h2 ⊢
    omega
  · unfold ltK ltP
    generalize key a = x
    generalize key b = y
    intro h1
    simp only [Bool.or_eq_true, Bool.and_eq_true, decide_eq_true_eq, Bool.or_eq_false_iff, Bool.and_eq_false_iff, decide_eq_false_iff_not] at h1 ⊢
    omega
theorem heap_congr {lt lt' : Value → Value → Bool} {xs : List Value} (h : HeapFrom lt .none 0 xs) (e : ∀ a ∈ xs, ∀ b ∈ xs, lt' a b = lt a b) : HeapFrom lt' .none 0 xs := by
  intro j hj h0 hk
  rw [e _ (getD_mem' hj) _ (getD_mem' (by omega))]
  exact h j hj h0 hk
theorem heapK_congr {key key' : Value → Int × Int} {xs : List Value} (h : HeapFrom (ltK key) .none 0 xs) (e : ∀ a ∈ xs, key' a = key a) : HeapFrom (ltK key') .none 0 xs :=
  heap_congr h fun a ha b hb => by unfold ltK; rw [e a ha, e b hb]
/-- the pop: the least, and what is left -/
structure Popped (T : Int) (key : Value → Int × Int) (v : Value) (items : List Value) (ds : List Int) (held : Int) : Prop where
  heap : HeapFrom (ltK key) .none 0 items
  pow : ∀ u ∈ items, PowP (key u)
  vpow : PowP (key v)
  least : ∀ u ∈ items, (key v).1 ≤ (key u).1
  sum : vsum key items + (key v).2 + held + ds.sum = T
  hpow : held = 0 ∨ ∃ j : Nat, held.natAbs = 2 ^ j
  naf : Naf ds
  far : ∀ d ∈ ds, (held ≠ 0 → 4 * d.natAbs ≤ held.natAbs) ∧ 4 * d.natAbs ≤ (key v).1.natAbs
  big : 2 * held.natAbs ≤ (key v).1.natAbs
  len : items.length + 1 + ds.length + one held ≤ 600
theorem good_start {T : Int} {key : Value → Int × Int} {items : List Value} (hs : vsum key items = T) (hp : ∀ v ∈ items, PowP (key v)) (hl : items.length ≤ 500) : Good T key (hfy (ltK key) .none items) [] 0 := by
  have hpm : (hfy (ltK key) .none items).Perm items := hfy_perm
  refine ⟨hfy_heap (ordK key), fun v hv => hp v (hpm.mem_iff.mp hv), ?_, .inl rfl, .nil, fun _ h => (nomatch h), fun _ _ => Nat.zero_le _, ?_⟩
  · rw [vsum_perm hpm, hs]; simp
  · rw [hpm.length_eq]; simp only [List.length_nil, one_zero]; omega
theorem lt_first {key : Value → Int × Int} {a b : Value} (h : ltK key b a = false) : (key a).1 ≤ (key b).1 := by
  unfold ltK ltP at h
  simp only [Bool.or_eq_false_iff, decide_eq_false_iff_not] at h
  omega
theorem good_pop {T : Int} {key : Value → Int × Int} {items : List Value} {ds : List Int} {held : Int} (h : Good T key items ds held) (h0 : 0 < items.length) :
    Popped T key (hpop (ltK key) .none items).1 (hpop (ltK key) .none items).2 ds held ∧ (hpop (ltK key) .none items).2.length + 1 = items.length ∧ (hpop (ltK key) .none items).1 ∈ items ∧ ∀ u ∈ (hpop (ltK key) .none items).2, u ∈ items := by
  have hp : ((hpop (ltK key) .none items).1 :: (hpop (ltK key) .none items).2).Perm items := hpop_perm h0
  have hv : (hpop (ltK key) .none items).1 ∈ items := hp.mem_iff.mp (.head _)
  have hu : ∀ u ∈ (hpop (ltK key) .none items).2, u ∈ items := fun u hu => hp.mem_iff.mp (.tail _ hu)
  have hl := hp.length_eq
  rw [List.length_cons] at hl
  refine ⟨⟨hpop_heap (ordK key) h.heap, fun u hm => h.pow u (hu u hm), h.pow _ hv, fun u hm => ?_, ?_, h.hpow, h.naf, fun d hd => ⟨(h.far d hd).1, (h.far d hd).2 _ hv⟩, h.big _ hv, ?_⟩, hl, hv, hu⟩
  · rw [hpop_fst h0]
    exact lt_first (heap_least (ordK key) h.heap (hu u hm))
  · have := vsum_perm (key := key) hp
    rw [vsum_cons] at this
    have := h.sum
    omega
  · have := h.len
    omega
theorem pow_two_step {j k : Nat} (h : (2 ^ j : Nat) < 2 ^ k) : 2 * 2 ^ j ≤ 2 ^ k := by
  have : j < k := (Nat.pow_lt_pow_iff_right (by decide)).mp h
  calc 2 * 2 ^ j = 2 ^ (j + 1) := by rw [Nat.pow_succ]; omega
    _ ≤ 2 ^ k := Nat.pow_le_pow_right (by decide) this
theorem pow_step {p q : Int × Int} (hp : PowP p) (hq : PowP q) (h : p.1 ≤ q.1) (hn : q.1 ≠ p.1) : 2 * p.1.natAbs ≤ q.1.natAbs := by
  have p1 := hp.pos
  have p2 := hq.pos
  obtain ⟨j, e1⟩ := hp.nat
  obtain ⟨k, e2⟩ := hq.nat
  have h2 : (2 ^ j : Nat) < 2 ^ k := by omega
  have := pow_two_step h2
  omega
/-- the top has the size of the one taken, and the other sign -/
theorem good_cancel {T : Int} {key : Value → Int × Int} {v : Value} {items : List Value} {ds : List Int} {held : Int} (h : Popped T key v items ds held) (h0 : 0 < items.length) (he : (key (items.getD 0 .none)).1 = (key v).1)
    (hz : (key v).2 + (key (items.getD 0 .none)).2 = 0) : Good T key (hpop (ltK key) .none items).2 ds held := by
  have hp : ((hpop (ltK key) .none items).1 :: (hpop (ltK key) .none items).2).Perm items := hpop_perm h0
  have hu : ∀ u ∈ (hpop (ltK key) .none items).2, u ∈ items := fun u hu => hp.mem_iff.mp (.tail _ hu)
  have hl := hp.length_eq
  rw [List.length_cons] at hl
  refine ⟨hpop_heap (ordK key) h.heap, fun u hm => h.pow u (hu u hm), ?_, h.hpow, h.naf, fun d hd => ⟨(h.far d hd).1, fun u hm => ?_⟩, fun u hm => ?_, ?_⟩
  · have := vsum_perm (key := key) hp
    rw [vsum_cons, hpop_fst h0] at this
    have := h.sum
    omega
  · have h1 := (h.far d hd).2
    have h2 := h.least u (hu u hm)
    have hpos := h.vpow.pos
    omega
  · have h1 := h.big
    have h2 := h.least u (hu u hm)
    have hpos := h.vpow.pos
    omega
  · have := h.len
    omega
theorem pow_double {p : Int × Int} {q2 : Int} (h : PowP p) (h2 : ∃ j : Nat, p.1 = ((2 ^ j : Nat) : Int) ∧ (q2 = ((2 ^ j : Nat) : Int) ∨ q2 = -((2 ^ j : Nat) : Int))) (hn : p.2 + q2 ≠ 0) : PowP (2 * p.1, p.2 + q2) := by
  obtain ⟨j, e1, e2⟩ := h
  obtain ⟨k, f1, f2⟩ := h2
  have e : ((2 ^ (j + 1) : Nat) : Int) = 2 * ((2 ^ j : Nat) : Int) := by rw [Nat.pow_succ]; omega
  refine ⟨j + 1, by rw [e, e1], ?_⟩
  rw [e]
  show p.2 + q2 = _ ∨ p.2 + q2 = _
  omega
/-- the two go together: the mark, then their sum -/
theorem mark_top {key : Value → Int × Int} {items : List Value} {z : Value} (hh : HeapFrom (ltK key) .none 0 items) (h0 : 0 < items.length) (hp : ∀ u ∈ items, PowP (key u)) (hz : key z = (0, 0)) :
    (hrepl (ltK key) .none items z).2.getD 0 .none = z ∧ 0 < (hrepl (ltK key) .none items z).2.length ∧ (hrepl (ltK key) .none items z).2.length = items.length ∧ ∀ u ∈ (hrepl (ltK key) .none items z).2, u = z ∨ u ∈ items := by
  have hp1 : ((hrepl (ltK key) .none items z).1 :: (hrepl (ltK key) .none items z).2).Perm (z :: items) := hrepl_perm h0
  have hl := hp1.length_eq
  simp only [List.length_cons] at hl
  have hu : ∀ u ∈ (hrepl (ltK key) .none items z).2, u = z ∨ u ∈ items := fun u hu => List.mem_cons.mp (hp1.mem_iff.mp (.tail _ hu))
  refine ⟨?_, by omega, by omega, hu⟩
  have hH := hrepl_heap (ordK key) (v := z) hh h0
  -- z lies in it
  have hfst : (hrepl (ltK key) .none items z).1 ∈ items := by
    show items.getD 0 .none ∈ items
    exact getD_mem' h0
  have hzm : z ∈ (hrepl (ltK key) .none items z).2 := by
    rcases List.mem_cons.mp (hp1.mem_iff.mpr (.head _)) with e | e
    · exfalso
      have e1 := (hp z (e ▸ hfst)).pos
      rw [hz] at e1
      exact absurd e1 (Int.lt_irrefl 0)
    · exact e
  have hle := lt_first (heap_least (ordK key) hH hzm)
  rcases hu _ (getD_mem' (by omega : 0 < (hrepl (ltK key) .none items z).2.length)) with e | e
  · exact e
  · exfalso
    have e1 := (hp _ e).pos
    rw [hz] at hle
    exact absurd hle (Int.not_le.mpr e1)
theorem good_merge {T : Int} {key : Value → Int × Int} {v z y : Value} {items it2 : List Value} {ds : List Int} {held : Int} (h : Popped T key v items ds held) (h0 : 0 < items.length) (he : (key (items.getD 0 .none)).1 = (key v).1)
    (hn : (key v).2 + (key (items.getD 0 .none)).2 ≠ 0) (hz : key z = (0, 0)) (hy : key y = (2 * (key v).1, (key v).2 + (key (items.getD 0 .none)).2))
    (hH2 : HeapFrom (ltK key) .none 0 it2) (hp1 : (items.getD 0 .none :: it2).Perm (z :: items)) (m1 : it2.getD 0 .none = z) (m2 : 0 < it2.length) :
    Good T key (hrepl (ltK key) .none it2 y).2 ds held ∧ (hrepl (ltK key) .none it2 y).2.length = items.length ∧ ∀ u ∈ (hrepl (ltK key) .none it2 y).2, u = y ∨ u ∈ items := by
  have hp2 : ((hrepl (ltK key) .none it2 y).1 :: (hrepl (ltK key) .none it2 y).2).Perm (y :: it2) := hrepl_perm m2
  have hH := hrepl_heap (ordK key) (v := y) hH2 m2
  have f2 : (hrepl (ltK key) .none it2 y).1 = z := m1
  rw [f2] at hp2
  revert hH hp2
  generalize (hrepl (ltK key) .none it2 y).2 = it3
  intro hp2 hH
  -- other :: it3 ~ y :: items
  have hp3 : (z :: items.getD 0 .none :: it3).Perm (z :: y :: items) :=
    (List.Perm.swap _ _ _).trans ((hp2.cons _).trans ((List.Perm.swap _ _ _).trans ((hp1.cons _).trans (List.Perm.swap _ _ _))))
  have hp4 : (items.getD 0 .none :: it3).Perm (y :: items) := (List.perm_cons z).mp hp3
  have hl := hp4.length_eq
  simp only [List.length_cons] at hl
  have hu : ∀ u ∈ it3, u = y ∨ u ∈ items := fun u hu => List.mem_cons.mp (hp4.mem_iff.mp (.tail _ hu))
  have hot := h.pow _ (getD_mem' (d := .none) h0)
  have hyp : PowP (key y) := by
    rw [hy]
    refine pow_double h.vpow ?_ hn
    obtain ⟨j, e1, e2⟩ := hot
    exact ⟨j, by rw [← he, e1], e2⟩
  have hle : ∀ u ∈ it3, (key v).1.natAbs ≤ (key u).1.natAbs := by
    intro u hm
    have hpos := h.vpow.pos
    rcases hu u hm with rfl | hm
    · rw [hy]; dsimp only; omega
    · have := h.least u hm; omega
  refine ⟨⟨hH, fun u hm => ?_, ?_, h.hpow, h.naf, fun d hd => ⟨(h.far d hd).1, fun u hm => Nat.le_trans (h.far d hd).2 (hle u hm)⟩, fun u hm => Nat.le_trans h.big (hle u hm), ?_⟩, by omega, hu⟩
  · rcases hu u hm with rfl | hm
    · exact hyp
    · exact h.pow u hm
  · have e := vsum_perm (key := key) hp4
    rw [vsum_cons, vsum_cons, hy] at e
    have := h.sum
    dsimp only at e
    omega
  · have := h.len
    omega
/-- the next alone: those left are at least twice it -/
theorem popped_alone {T : Int} {key : Value → Int × Int} {v : Value} {items : List Value} {ds : List Int} {held : Int} (h : Popped T key v items ds held) (hn : 0 < items.length → (key (items.getD 0 .none)).1 ≠ (key v).1) :
    ∀ u ∈ items, 2 * (key v).1.natAbs ≤ (key u).1.natAbs := by
  intro u hm
  have h0 : 0 < items.length := List.length_pos_of_mem hm
  have h1 := pow_step h.vpow (h.pow _ (getD_mem' (d := .none) h0)) (h.least _ (getD_mem' h0)) (hn h0)
  have h2 := lt_first (heap_least (ordK key) h.heap hm)
  have hpos := (h.pow _ (getD_mem' (d := .none) h0)).pos
  omega
theorem sum_snoc (ds : List Int) (x : Int) : (ds ++ [x]).sum = ds.sum + x := by rw [List.sum_append]; simp
/-- it is of twice the size of what waits, and the two cancel -/
theorem good_twice0 {T : Int} {key : Value → Int × Int} {v : Value} {items : List Value} {ds : List Int} {held : Int} (h : Popped T key v items ds held) (ha : ∀ u ∈ items, 2 * (key v).1.natAbs ≤ (key u).1.natAbs)
    (h2 : 2 * (held.natAbs : Int) = (key v).1) (hz : (key v).2 + 2 * held = 0) : Good T key items (ds ++ [-held]) 0 := by
  have hpos := h.vpow.pos
  have htwo := h.vpow.two
  have hh : held ≠ 0 := by omega
  obtain ⟨k, ek⟩ := h.hpow.resolve_left hh
  refine ⟨h.heap, h.pow, ?_, .inl rfl, h.naf.snoc (j := k) (by omega) fun d hd => by have := (h.far d hd).1 hh; omega, fun d hd => ⟨fun h => absurd rfl h, fun u hm => ?_⟩, fun u hm => by simp, ?_⟩
  · rw [sum_snoc]; have := h.sum; omega
  · have := ha u hm
    rcases List.mem_append.mp hd with hd | hd
    · have := (h.far d hd).2; omega
    · rw [List.mem_singleton.mp hd]; omega
  · rw [List.length_append, List.length_singleton, one_zero]; have := h.len; rw [one_ne hh] at this; omega
theorem good_twice {T : Int} {key : Value → Int × Int} {v y : Value} {items : List Value} {ds : List Int} {held : Int} (h : Popped T key v items ds held) (ha : ∀ u ∈ items, 2 * (key v).1.natAbs ≤ (key u).1.natAbs)
    (h2 : 2 * (held.natAbs : Int) = (key v).1) (hz : (key v).2 + 2 * held ≠ 0) (hy : key y = (2 * (key v).1, (key v).2 + 2 * held)) : Good T key (hpush (ltK key) .none items y) (ds ++ [-held]) 0 := by
  have hpos := h.vpow.pos
  have htwo := h.vpow.two
  have hh : held ≠ 0 := by omega
  obtain ⟨k, ek⟩ := h.hpow.resolve_left hh
  have hp : (hpush (ltK key) .none items y).Perm (y :: items) := hpush_perm
  have hl := hp.length_eq
  rw [List.length_cons] at hl
  have hu : ∀ u ∈ hpush (ltK key) .none items y, u = y ∨ u ∈ items := fun u hu => List.mem_cons.mp (hp.mem_iff.mp hu)
  refine ⟨hpush_heap (ordK key) h.heap, fun u hm => ?_, ?_, .inl rfl, h.naf.snoc (j := k) (by omega) fun d hd => by have := (h.far d hd).1 hh; omega, fun d hd => ⟨fun h => absurd rfl h, fun u hm => ?_⟩, fun u hm => by simp, ?_⟩
  · rcases hu u hm with rfl | hm
    · rw [hy]
      obtain ⟨j, e1, _⟩ := h.vpow
      refine pow_double h.vpow ⟨j, e1, ?_⟩ hz
      rw [← e1]
      omega
    · exact h.pow u hm
  · have e := vsum_perm (key := key) hp
    rw [vsum_cons, hy] at e
    rw [sum_snoc]; have := h.sum; dsimp only at e; omega
  · have h3 : 2 * (key v).1.natAbs ≤ (key u).1.natAbs := by
      rcases hu u hm with rfl | hm
      · rw [hy]; dsimp only; omega
      · exact ha u hm
    rcases List.mem_append.mp hd with hd | hd
    · have := (h.far d hd).2; omega
    · rw [List.mem_singleton.mp hd]; omega
  · rw [List.length_append, List.length_singleton, one_zero]; have := h.len; rw [one_ne hh] at this; omega
/-- it waits -/
theorem good_wait {T : Int} {key : Value → Int × Int} {v : Value} {items : List Value} {ds : List Int} {held : Int} (h : Popped T key v items ds held) (ha : ∀ u ∈ items, 2 * (key v).1.natAbs ≤ (key u).1.natAbs)
    (h2 : 2 * (held.natAbs : Int) ≠ (key v).1) (hh : held ≠ 0) : Good T key items (ds ++ [held]) (key v).2 := by
  have hpos := h.vpow.pos
  have htwo := h.vpow.two
  obtain ⟨j, e1⟩ := h.vpow.nat
  obtain ⟨k, ek⟩ := h.hpow.resolve_left hh
  have h4 : 4 * held.natAbs ≤ (key v).1.natAbs := by
    have hb := h.big
    have e : 2 * 2 ^ k = 2 ^ (k + 1) := by rw [Nat.pow_succ]; omega
    have h5 : (2 ^ (k + 1) : Nat) < 2 ^ j := by omega
    have := pow_two_step h5
    omega
  have hd4 : ∀ d ∈ ds ++ [held], 4 * d.natAbs ≤ (key v).1.natAbs := fun d hd => by
    rcases List.mem_append.mp hd with hd | hd
    · exact (h.far d hd).2
    · rw [List.mem_singleton.mp hd]; exact h4
  refine ⟨h.heap, h.pow, ?_, .inr ⟨j, by omega⟩, h.naf.snoc (j := k) ek fun d hd => (h.far d hd).1 hh, fun d hd => ⟨fun _ => ?_, fun u hm => ?_⟩, fun u hm => ?_, ?_⟩
  · rw [sum_snoc]; have := h.sum; omega
  · have := hd4 d hd; omega
  · have := hd4 d hd; have := ha u hm; omega
  · have := ha u hm; omega
  · rw [List.length_append, List.length_singleton]; have := h.len; rw [one_ne hh] at this; have := one_le (key v).2; omega
theorem good_wait0 {T : Int} {key : Value → Int × Int} {v : Value} {items : List Value} {ds : List Int} {held : Int} (h : Popped T key v items ds held) (ha : ∀ u ∈ items, 2 * (key v).1.natAbs ≤ (key u).1.natAbs) (hh : held = 0) :
    Good T key items ds (key v).2 := by
  have hpos := h.vpow.pos
  have htwo := h.vpow.two
  obtain ⟨j, e1⟩ := h.vpow.nat
  refine ⟨h.heap, h.pow, ?_, .inr ⟨j, by omega⟩, h.naf, fun d hd => ⟨fun _ => ?_, fun u hm => ?_⟩, fun u hm => ?_, ?_⟩
  · have := h.sum; omega
  · have := (h.far d hd).2; omega
  · have := (h.far d hd).2; have := ha u hm; omega
  · have := ha u hm; omega
  · have := h.len; have := one_le (key v).2; omega
theorem abs_eq (x : Int) : (if x < 0 then -x else x) = (x.natAbs : Int) := by split <;> omega
theorem mu_lt {a b : List Value} {x y : Int} (h : a.length + 1 = b.length) (hx : y = 0 ∨ one x ≤ one y) : mu a x < mu b y := by
  unfold mu
  have := one_le x
  have := one_le y
  omega
theorem good_key {T : Int} {key key' : Value → Int × Int} {items : List Value} {ds : List Int} {held : Int} {v : Value} (h : Popped T key v items ds held) (e : ∀ u ∈ items, key' u = key u) (ev : key' v = key v) : Popped T key' v items ds held :=
  ⟨heapK_congr h.heap e, fun u hu => by rw [e u hu]; exact h.pow u hu, by rw [ev]; exact h.vpow, fun u hu => by rw [e u hu, ev]; exact h.least u hu, by rw [vsum_congr e, ev]; exact h.sum, h.hpow, h.naf, fun d hd => by rw [ev]; exact h.far d hd, by rw [ev]; exact h.big, h.len⟩
end Mine
end
section
set_option Elab.async false
namespace Mine
/-- the signed powers that two numbers' bits tell: where b has a bit and a has not, and the other way about -/
def dig : Nat → Nat → Nat → List Int
  | 0, _, _ => []
  | k + 1, a, b => (if a % 2 = b % 2 then [] else [if b % 2 = 1 then 1 else -1]) ++ (dig k (a / 2) (b / 2)).map (2 * ·)
theorem bitsB_front (N k : Nat) : bitsB N (k + 1) = (if N % 2 = 1 then [0] else []) ++ (bitsB (N / 2) k).map (· + 1) := by
  unfold bitsB
  rw [List.range_succ_eq_map, List.filter_cons, List.filter_map]
  have e : (fun i => N.testBit i) ∘ Nat.succ = fun i => (N / 2).testBit i := by
    funext i
    show N.testBit (i + 1) = _
    rw [Nat.testBit_succ]
  rw [e, Nat.testBit_zero]
  by_cases h : N % 2 = 1 <;> simp [h]
theorem dig_bits : ∀ (k a b : Nat), ((bitsB (a ^^^ b) k).map fun i => if b.testBit i then ((2 ^ i : Nat) : Int) else -((2 ^ i : Nat) : Int)) = dig k a b
  | 0, _, _ => rfl
  | k + 1, a, b => by
    rw [bitsB_front, List.map_append, List.map_map, dig, ← dig_bits k (a / 2) (b / 2), List.map_map, Nat.xor_div_two]
    congr 1
    · have h : (a ^^^ b) % 2 = (a % 2 + b % 2) % 2 := by
        have h1 : (a ^^^ b).testBit 0 = (a.testBit 0 ^^ b.testBit 0) := Nat.testBit_xor ..
        rw [Nat.testBit_zero, Nat.testBit_zero, Nat.testBit_zero] at h1
        by_cases e1 : a % 2 = 1 <;> by_cases e2 : b % 2 = 1 <;> by_cases e3 : (a ^^^ b) % 2 = 1 <;> simp [e1, e2, e3] at h1 ⊢ <;> omega
      have hb : b.testBit 0 = decide (b % 2 = 1) := Nat.testBit_zero ..
      by_cases e : a % 2 = b % 2
      · rw [if_pos e, if_neg (by omega)]; rfl
      · rw [if_neg e, if_pos (by omega)]
        show [if b.testBit 0 = true then _ else _] = _
        rw [hb]
        by_cases e2 : b % 2 = 1 <;> simp [e2]
    · refine List.map_congr_left fun i _ => ?_
      show (if b.testBit (i + 1) = true then _ else _) = 2 * (if (b / 2).testBit i = true then _ else _)
      rw [Nat.testBit_succ, Nat.pow_succ]
      split <;> omega
theorem naf_tail {d : Int} {ds : List Int} (h : Naf (d :: ds)) : Naf ds := ⟨(List.pairwise_cons.mp h.gap).2, fun x hx => h.pow x (.tail _ hx)⟩
theorem naf_div {ds : List Int} {c : Int} (h : Naf ds) (hc : c = 2 ∨ c = 4) (hd : ∀ d ∈ ds, c ∣ d) : ∃ es, ds = es.map (c * ·) ∧ Naf es := by
  induction ds with
  | nil => exact ⟨[], rfl, .nil⟩
  | cons d ds ih =>
    obtain ⟨es, rfl, hes⟩ := ih (naf_tail h) fun x hx => hd x (.tail _ hx)
    obtain ⟨e, rfl⟩ := hd d (.head _)
    refine ⟨e :: es, rfl, ⟨List.pairwise_cons.mpr ⟨fun x hx => ?_, hes.gap⟩, fun x hx => ?_⟩⟩
    · have := (List.pairwise_cons.mp h.gap).1 (c * x) (List.mem_map_of_mem hx)
      rcases hc with rfl | rfl <;> omega
    · rcases List.mem_cons.mp hx with rfl | hx
      · obtain ⟨j, ej⟩ := h.pow _ (.head _)
        rcases hc with rfl | rfl
        · match j, ej with
          | 0, ej => omega
          | j + 1, ej => exact ⟨j, by rw [Nat.pow_succ] at ej; omega⟩
        · match j, ej with
          | 0, ej => omega
          | 1, ej => omega
          | j + 2, ej => exact ⟨j, by rw [Nat.pow_succ, Nat.pow_succ] at ej; omega⟩
      · exact hes.pow x hx
theorem dvd_of_pow {x : Int} {j : Nat} (c : Nat) (h : x.natAbs = 2 ^ j) (hc : 2 ^ c ≤ x.natAbs) : ((2 ^ c : Nat) : Int) ∣ x := by
  have h1 : c ≤ j := (Nat.pow_le_pow_iff_right (by decide : 1 < 2)).mp (h ▸ hc)
  have h2 : 2 ^ c ∣ x.natAbs := h ▸ Nat.pow_dvd_pow 2 h1
  exact Int.natAbs_dvd_natAbs.mp (by simpa using h2)
theorem naf_cases {ds : List Int} (h : Naf ds) : (∃ es, ds = es.map (2 * ·) ∧ Naf es) ∨ ∃ d es, (d = 1 ∨ d = -1) ∧ ds = d :: es.map (4 * ·) ∧ Naf es := by
  match ds, h with
  | [], _ => exact .inl ⟨[], rfl, .nil⟩
  | d :: ds, h =>
    have hg := (List.pairwise_cons.mp h.gap).1
    obtain ⟨j, ej⟩ := h.pow d (.head _)
    by_cases h1 : d.natAbs = 1
    · obtain ⟨es, e, hes⟩ := naf_div (c := 4) (naf_tail h) (.inr rfl) fun x hx => by
        obtain ⟨k, ek⟩ := h.pow x (.tail _ hx)
        exact dvd_of_pow 2 ek (by have := hg x hx; omega)
      exact .inr ⟨d, es, by omega, by rw [e], hes⟩
    · have h2 : 2 ≤ d.natAbs := by have := Nat.two_pow_pos j; omega
      obtain ⟨es, e, hes⟩ := naf_div (c := 2) h (.inl rfl) fun x hx => by
        obtain ⟨k, ek⟩ := h.pow x hx
        refine dvd_of_pow 1 ek ?_
        rcases List.mem_cons.mp hx with rfl | hx
        · exact h2
        · have := hg x hx; omega
      exact .inl ⟨es, e, hes⟩
theorem sum_mul (c : Int) : ∀ es : List Int, (es.map (c * ·)).sum = c * es.sum
  | [] => by simp
  | e :: es => by rw [List.map_cons, List.sum_cons, List.sum_cons, sum_mul c es, Int.mul_add]
theorem naf_zero : ∀ (n : Nat) {ds : List Int}, ds.length + (ds.map Int.natAbs).sum ≤ n → Naf ds → ds.sum = 0 → ds = []
  | _, [], _, _, _ => rfl
  | 0, _ :: _, hn, _, _ => by simp at hn
  | n + 1, d :: ds, hn, h, hs => by
    rcases naf_cases h with ⟨es, e, hes⟩ | ⟨d', es, hd, e, hes⟩
    · rw [e, sum_mul] at hs
      have hl : es.length = (d :: ds).length := by rw [e, List.length_map]
      have h2 : ((d :: ds).map Int.natAbs).sum = 2 * (es.map Int.natAbs).sum := by
        rw [e]
        clear hs hn h hes hl e
        induction es with
        | nil => rfl
        | cons x es ih => simp only [List.map_cons, List.sum_cons] at ih ⊢; omega
      match es, e, hl with
      | x :: es', e, hl =>
        have hx : 0 < x.natAbs := by obtain ⟨k, ek⟩ := hes.pow x (.head _); rw [ek]; exact Nat.two_pow_pos k
        have := naf_zero n (ds := x :: es') (by rw [hl]; rw [h2] at hn; simp only [List.map_cons, List.sum_cons] at hn ⊢; omega) hes (by omega)
        exact absurd this (by simp)
    · rw [e, List.sum_cons, sum_mul] at hs
      omega
theorem dig_step (k a b : Nat) : dig (k + 1) a b = (if a % 2 = b % 2 then [] else [if b % 2 = 1 then 1 else -1]) ++ (dig k (a / 2) (b / 2)).map (2 * ·) := rfl
theorem dig_same {k a b a' b' : Nat} (h : a % 2 = b % 2) (ha : a / 2 = a') (hb : b / 2 = b') : dig (k + 1) a b = (dig k a' b').map (2 * ·) := by
  rw [dig_step, if_pos h, ha, hb]; rfl
theorem dig_one {k a b a' b' : Nat} (h : a % 2 = 0) (h' : b % 2 = 1) (ha : a / 2 = a') (hb : b / 2 = b') : dig (k + 1) a b = 1 :: (dig k a' b').map (2 * ·) := by
  rw [dig_step, if_neg (by omega), if_pos h', ha, hb]; rfl
theorem dig_neg {k a b a' b' : Nat} (h : a % 2 = 1) (h' : b % 2 = 0) (ha : a / 2 = a') (hb : b / 2 = b') : dig (k + 1) a b = -1 :: (dig k a' b').map (2 * ·) := by
  rw [dig_step, if_neg (by omega), if_neg (by omega), ha, hb]; rfl
theorem naf_dig : ∀ (k n : Nat) (ds : List Int), Naf ds → ds.sum = (n : Int) → (3 * n < 2 ^ k → dig k n (3 * n) = ds.map (2 * ·)) ∧ (1 ≤ n → 3 * n ≤ 2 ^ k → dig k (n - 1) (3 * n - 1) = ds.map (2 * ·))
  | 0, n, ds, h, hs => by
    refine ⟨fun hk => ?_, fun h1 hk => by omega⟩
    have : n = 0 := by omega
    subst this
    rw [naf_zero _ (Nat.le_refl _) h hs]
    rfl
  | k + 1, n, ds, h, hs => by
    have e2 : 2 ^ (k + 1) = 2 * 2 ^ k := by rw [Nat.pow_succ]; omega
    rcases naf_cases h with ⟨es, rfl, hes⟩ | ⟨d, es, hd, rfl, hes⟩
    · rw [sum_mul] at hs
      obtain ⟨m, rfl⟩ : ∃ m, n = 2 * m := ⟨n / 2, by omega⟩
      obtain ⟨i1, i2⟩ := naf_dig k m es hes (by omega)
      refine ⟨fun hk => ?_, fun h1 hk => ?_⟩
      · rw [dig_same (a' := m) (b' := 3 * m) (by omega) (by omega) (by omega), i1 (by omega)]
      · rw [dig_same (a' := m - 1) (b' := 3 * m - 1) (by omega) (by omega) (by omega), i2 (by omega) (by omega)]
    · rw [List.sum_cons, sum_mul] at hs
      match k, e2 with
      | 0, e2 =>
        refine ⟨fun hk => ?_, fun h1 hk => ?_⟩ <;> exfalso <;> omega
      | k + 1, e2 =>
        have e3 : 2 ^ (k + 1) = 2 * 2 ^ k := by rw [Nat.pow_succ]; omega
        have e4 : ∀ d : Int, (d :: es.map (4 * ·)).map (2 * ·) = (d :: (es.map (2 * ·)).map (2 * ·)).map (2 * ·) := by
          intro d
          simp only [List.map_cons, List.map_map, List.cons.injEq, true_and]
          refine List.map_congr_left fun x _ => ?_
          show 2 * (4 * x) = 2 * (2 * (2 * x))
          omega
        rcases hd with rfl | rfl
        · obtain ⟨m, rfl⟩ : ∃ m, n = 4 * m + 1 := ⟨n / 4, by omega⟩
          obtain ⟨i1, i2⟩ := naf_dig k m es hes (by omega)
          refine ⟨fun hk => ?_, fun h1 hk => ?_⟩
          · rw [dig_same (a' := 2 * m) (b' := 6 * m + 1) (by omega) (by omega) (by omega), dig_one (a' := m) (b' := 3 * m) (by omega) (by omega) (by omega) (by omega), i1 (by omega), e4]
          · rw [dig_same (a' := 2 * m) (b' := 6 * m + 1) (by omega) (by omega) (by omega), dig_one (a' := m) (b' := 3 * m) (by omega) (by omega) (by omega) (by omega), i1 (by omega), e4]
        · obtain ⟨m, rfl, hm⟩ : ∃ m, n = 4 * m - 1 ∧ 1 ≤ m := ⟨(n + 1) / 4, by omega, by omega⟩
          obtain ⟨i1, i2⟩ := naf_dig k m es hes (by omega)
          refine ⟨fun hk => ?_, fun h1 hk => ?_⟩
          · rw [dig_same (a' := 2 * m - 1) (b' := 6 * m - 2) (by omega) (by omega) (by omega), dig_neg (a' := m - 1) (b' := 3 * m - 1) (by omega) (by omega) (by omega) (by omega), i2 hm (by omega), e4]
          · rw [dig_same (a' := 2 * m - 1) (b' := 6 * m - 2) (by omega) (by omega) (by omega), dig_neg (a' := m - 1) (b' := 3 * m - 1) (by omega) (by omega) (by omega) (by omega), i2 hm (by omega), e4]
theorem xor_and_sum : ∀ (n a b : Nat), a ≤ n → (a ^^^ b) + 2 * (a &&& b) = a + b
  | 0, a, b, h => by
    have : a = 0 := by omega
    subst this
    simp
  | n + 1, a, b, h => by
    by_cases h0 : a = 0
    · subst h0; simp
    have ih := xor_and_sum n (a / 2) (b / 2) (by omega)
    have h1 : (a ^^^ b).testBit 0 = (a.testBit 0 ^^ b.testBit 0) := Nat.testBit_xor ..
    have h2 : (a &&& b).testBit 0 = (a.testBit 0 && b.testBit 0) := Nat.testBit_and ..
    rw [Nat.testBit_zero, Nat.testBit_zero, Nat.testBit_zero] at h1 h2
    have h3 : (a ^^^ b) / 2 = a / 2 ^^^ b / 2 := Nat.xor_div_two
    have h4 : (a &&& b) / 2 = a / 2 &&& b / 2 := Nat.and_div_two
    rw [← h3, ← h4] at ih
    by_cases e1 : a % 2 = 1 <;> by_cases e2 : b % 2 = 1 <;> by_cases e3 : (a ^^^ b) % 2 = 1 <;> by_cases e4 : (a &&& b) % 2 = 1 <;> first | omega | (exfalso; simp only [e1, e2, e3, e4, decide_true, decide_false] at h1 h2; first | exact absurd h1 (by decide) | exact absurd h2 (by decide))
theorem xor_eq (x : Int) : PySem.Builtin.bitXor (if x < 0 then -x else x) (3 * if x < 0 then -x else x) = ((x.natAbs ^^^ (3 * x.natAbs) : Nat) : Int) := by
  rw [abs_eq, PyProof.Rows.bitXor_and]
  have h := xor_and_sum _ x.natAbs (3 * x.natAbs) (Nat.le_refl _)
  have h2 : PySem.Builtin.bitAnd (x.natAbs : Int) (3 * (x.natAbs : Int)) = ((x.natAbs &&& (3 * x.natAbs) : Nat) : Int) := by
    have : (3 * (x.natAbs : Int)) = ((3 * x.natAbs : Nat) : Int) := by omega
    rw [this]
    generalize 3 * x.natAbs = y
    unfold PySem.Builtin.bitAnd
    rw [decide_eq_true (Int.natCast_nonneg _), decide_eq_true (Int.natCast_nonneg y)]
    simp
  rw [h2]
  omega
def dueOf (T sg p : Int) : Int := if p ∈ (bitsB (3 * T.natAbs) 32).map (fun i => ((2 ^ i : Nat) : Int)) then p.fdiv 2 * sg else -(p.fdiv 2 * sg)
theorem dueOf_pos {T sg p : Int} (h : ((List.map (fun i => ((2 ^ i : Nat) : Int)) (bitsB (3 * T.natAbs) 32)).any fun x => x == p) = true) : dueOf T sg p = p.fdiv 2 * sg := by
  unfold dueOf
  obtain ⟨x, hx, e⟩ := List.any_eq_true.mp h
  rw [if_pos ((eq_of_beq e) ▸ hx)]
theorem dueOf_neg {T sg p : Int} (h : ((List.map (fun i => ((2 ^ i : Nat) : Int)) (bitsB (3 * T.natAbs) 32)).any fun x => x == p) = false) : dueOf T sg p = -(p.fdiv 2 * sg) := by
  unfold dueOf
  rw [if_neg (fun hx => by rw [List.any_eq_true.mpr ⟨p, hx, by simp⟩] at h; exact absurd h (by decide))]
theorem due_eq {ds : List Int} {T sg : Int} (h : Naf ds) (hs : ds.sum = T) (hW : 3 * T.natAbs < 2 ^ 32) (hsg : (sg = 1 ∧ 0 ≤ T) ∨ (sg = -1 ∧ T ≤ 0)) :
    ((bitsB (T.natAbs ^^^ 3 * T.natAbs) 32).map fun i => ((2 ^ i : Nat) : Int)).map (dueOf T sg) = ds := by
  have hab : ∀ d : Int, (sg * d).natAbs = d.natAbs := fun d => by rcases hsg with ⟨rfl, _⟩ | ⟨rfl, _⟩ <;> omega
  have hn : Naf (ds.map (sg * ·)) := by
    refine ⟨?_, fun d hd => ?_⟩
    · rw [List.pairwise_map]
      exact h.gap.imp fun {a b} hab' => by rw [hab, hab]; exact hab'
    · obtain ⟨e, he, rfl⟩ := List.mem_map.mp hd
      obtain ⟨j, ej⟩ := h.pow e he
      exact ⟨j, by rw [hab]; exact ej⟩
  have hsum : (ds.map (sg * ·)).sum = ((T.natAbs : Nat) : Int) := by
    rw [sum_mul, hs]
    rcases hsg with ⟨rfl, _⟩ | ⟨rfl, _⟩ <;> omega
  have e := (naf_dig 32 T.natAbs _ hn hsum).1 hW
  rw [← dig_bits] at e
  have e2 := congrArg (List.map fun v => sg * (v / 2)) e
  rw [List.map_map, List.map_map, List.map_map] at e2
  have e3 : ds.map (((fun v => sg * (v / 2)) ∘ (2 * ·)) ∘ (sg * ·)) = ds := by
    have : (((fun v => sg * (v / 2)) ∘ (2 * ·)) ∘ (sg * ·) : Int → Int) = id := by
      funext d
      show sg * (2 * (sg * d) / 2) = d
      rcases hsg with ⟨rfl, _⟩ | ⟨rfl, _⟩ <;> omega
    rw [this, List.map_id]
  rw [e3] at e2
  rw [List.map_map]
  refine Eq.trans (List.map_congr_left fun i hi => ?_) e2
  have hev : ∃ q, (if (3 * T.natAbs).testBit i = true then ((2 ^ i : Nat) : Int) else -((2 ^ i : Nat) : Int)) = 2 * q := by
    have hm : (if (3 * T.natAbs).testBit i = true then ((2 ^ i : Nat) : Int) else -((2 ^ i : Nat) : Int)) ∈ (bitsB (T.natAbs ^^^ 3 * T.natAbs) 32).map (fun i => if (3 * T.natAbs).testBit i then ((2 ^ i : Nat) : Int) else -((2 ^ i : Nat) : Int)) := List.mem_map.mpr ⟨i, hi, rfl⟩
    rw [e] at hm
    obtain ⟨q, _, hq⟩ := List.mem_map.mp hm
    exact ⟨q, hq.symm⟩
  have hi32 := bitsB_lt hi
  show dueOf T sg ((2 ^ i : Nat) : Int) = sg * ((if (3 * T.natAbs).testBit i = true then ((2 ^ i : Nat) : Int) else -((2 ^ i : Nat) : Int)) / 2)
  have hmem : ((2 ^ i : Nat) : Int) ∈ (bitsB (3 * T.natAbs) 32).map (fun i => ((2 ^ i : Nat) : Int)) ↔ (3 * T.natAbs).testBit i = true := by
    constructor
    · intro hm
      obtain ⟨k, hk, ek⟩ := List.mem_map.mp hm
      have : k = i := (Nat.pow_right_inj (by decide : 1 < 2)).mp (Int.ofNat.inj ek)
      subst this
      unfold bitsB at hk
      exact (List.mem_filter.mp hk).2
    · intro ht
      refine List.mem_map.mpr ⟨i, ?_, rfl⟩
      unfold bitsB
      exact List.mem_filter.mpr ⟨List.mem_range.mpr hi32, ht⟩
  unfold dueOf
  match i, hev, hmem with
  | 0, hev, _ =>
    obtain ⟨q, hq⟩ := hev
    exfalso
    split at hq <;> simp at hq <;> omega
  | k + 1, _, hmem =>
    have ep : ((2 ^ (k + 1) : Nat) : Int) = 2 * ((2 ^ k : Nat) : Int) := by rw [Nat.pow_succ]; omega
    have ef : ((2 ^ (k + 1) : Nat) : Int).fdiv 2 = ((2 ^ k : Nat) : Int) := by rw [Int.fdiv_eq_ediv_of_nonneg _ (by decide), ep]; omega
    rw [ef]
    generalize hX : ((2 ^ k : Nat) : Int) = X at ep ⊢
    by_cases ht : (3 * T.natAbs).testBit (k + 1) = true
    · rw [if_pos (hmem.mpr ht), if_pos ht, ep]
      rcases hsg with ⟨rfl, _⟩ | ⟨rfl, _⟩ <;> omega
    · rw [if_neg (fun hm => ht (hmem.mp hm)), if_neg ht, ep]
      rcases hsg with ⟨rfl, _⟩ | ⟨rfl, _⟩ <;> omega
end Mine
end
section
open PySem PySem.Calls PySem.W PyProof.Rows
set_option Elab.async false
set_option maxRecDepth 100000
set_option maxHeartbeats 8000000
namespace Mine
section
local macro_rules | `(tactic| walk_at "MINE go") => `(tactic| repeat' ((fail_if_success (with_reducible show Stop _)); (first | (k_unfold; (try dsimp only)) | (k_end; wrow_close) | walk1 | (dsimp only; walk1) | (leave1; walk_say "STEP leave1"; try dsimp only) | fail "no step")))
local macro_rules | `(tactic| walk_at "pyIter ref") => `(tactic| refine Stop.i ?_)
local macro_rules | `(tactic| walk_at "call ref") => `(tactic| refine Stop.i ?_)
local macro_rules | `(tactic| walk_at "InvEndG") => `(tactic| refine Stop.i ?_)
local macro_rules | `(tactic| walk_at "CompEnd") => `(tactic| refine Stop.i ?_)
local macro_rules | `(tactic| walk_at "CompSrc") => `(tactic| refine Stop.i ?_)
local macro_rules | `(tactic| walk_at "call builtin:list.extend") => `(tactic| refine Stop.i ?_)
local macro_rules | `(tactic| walk_at "eval ListComp") => `(tactic| (k_here; k_dflt (refine LCg.ListComp_U (F₀ := by k_asm) (by with_unfolding_all rfl) (by decide) (by rfl) (by decide) (by rfl) ?_)))
local macro_rules | `(tactic| walk_at "exec For Name BinOp cons nil") => `(tactic| (k_here; (rename Fr _ _ _ _ => lF'); (with_unfolding_all refine' For_invVF lF' ?k1 ?k2 ?_; (case k1 => exact rfl); (case k2 => exact rfl); k_whole)))
local macro_rules | `(tactic| walk_at "last exec While") => `(tactic| refine Stop.i ?_)
local macro_rules | `(tactic| walk_at "exec While") => `(tactic| refine Stop.i ?_)
local macro_rules | `(tactic| walk_at "InvEndN") => `(tactic| refine Stop.i ?_)
local macro_rules | `(tactic| walk_at "KswEnd") => `(tactic| refine Stop.i ?_)
local macro_rules | `(tactic| walk_at "call builtin:list.append") => `(tactic| refine Stop.i ?_)
local macro_rules | `(tactic| walk_at "truthy ref") => `(tactic| (k_here; (with_reducible show wpAny _ _ (truthy (Value.ref _)) _ _ _); k_dflt (first | (refine' truthy_T ?k1 ?k2 ?k3 ?k4 ?_; (case k1 => k_asm); (case k2 => k_mem); (case k3 => assumption); (case k4 => omega)) | (refine' truthy_F ?k1 ?k2 ?k3 ?_; (case k1 => k_asm); (case k2 => k_mem); (case k3 => assumption))); k_whole))
local macro_rules | `(tactic| walk_at "subscriptTail") => `(tactic| (k_here; (with_reducible show wpAny _ _ (subscriptTail _ _ (Value.ref _) (Value.int 0 _)) _ _ _); k_dflt (refine' get0_V ?k1 ?k2 ?k3 ?k4 ?_ ?k6; (case k1 => k_asm); (case k2 => k_mem); (case k3 => assumption); (case k4 => assumption); (case k6 => with_unfolding_all rfl); k_whole)))
theorem with5 {h₀ h : Heap} {L D D1 l1 H L1 : Addr} {ws ws1 : List Value} {o1 oc : Obj} {P : Prop} (_ : News h₀ L h [(D, listOf ws.toArray 0), (D1, listOf ws1.toArray 0), (l1, o1), (H, listOf #[] 0), (L1, oc)])
    (k : ∀ D' H' oc' ws' L', D' = D → H' = H → oc' = oc → ws' = ws → L' = L1 → P) : P := k _ _ _ _ _ rfl rfl rfl rfl rfl
theorem with_sg {o : Obj} {sg : Int} {t : Tok} {P : Prop} (_ : o.data = .cell (some (.int sg t))) (k : ∀ g t', g = sg → t' = t → P) : P := k _ _ rfl rfl
theorem with_cell {h₀ h : Heap} {L D2 H L1 D : Addr} {o2 oh oc od : Obj} {rest : List (Addr × Obj)} {P : Prop} (_ : News h₀ L h ((D2, o2) :: (H, oh) :: (L1, oc) :: (D, od) :: rest))
    (k : ∀ o' X, o' = oc → X = (L1, oc) → P) : P := k _ _ rfl rfl
theorem law_holds : PySem.Challenge.rw_pm0017_01.Holds := hd (by
  k_go0
  (try k_fold)
  walk_at "MINE go"
  refine Stop.o ?_
  rename IntsAre _ _ => hI
  rename Heap.IsList _ _ _ => hL
  rename News _ _ _ _ => nE
  rename ¬ _ < _ => hlen
  refine cell_call (by k_asm) (by k_asm) (by k_asm) nE (by k_asm) rfl hL hI hlen (by decide +kernel) (by decide +kernel) ?_
  intro sh tsh h1 tk1 F1 N1
  walk_at "MINE go"
  refine Stop.o ?_
  rename IntsAre _ _ => hI2
  rename News _ _ _ _ => nF
  rename Fr _ _ _ _ => fF
  refine with5 nF (fun D H oc ws L1 e1 e2 e3 e4 e5 => ?_)
  subst e1
  subst e2
  subst e4
  rename _ < D ∧ _ < D ∧ _ < D ∧ _ < D => lD
  rename _ < H => lH
  refine' kd_listI (σ := HS) (fun c => [(H, listOf c.items.toArray c.n), (L1, c.o)]) [(D, listOf ws.toArray 0)] (fun c => [(Str.ofString "total", .int c.total c.tt)])
    (fun led c => (∀ v ∈ c.items, IsP led c.key v) ∧ ∃ v, c.o.data = .cell v) [Str.ofString "number"] (HP sh) [H, L1, D] ⟨[], 0, oc, fun _ => (0, 0), 0, ?tt⟩ rfl (.head _) hI2 fF nF ?zn ?za ?zf ?zk ?zp ?zt ?zd
  case zk =>
    intro p hp
    cases List.mem_singleton.mp hp
    with_unfolding_all rfl
  all_goals (subst e5)
  case zn =>
    subst e3
    intro p hp
    rcases List.mem_cons.mp hp with rfl | hp
    · exact .tail _ (.tail _ (.tail _ (.head _)))
    · rcases List.mem_cons.mp hp with rfl | hp
      · exact .tail _ (.tail _ (.tail _ (.tail _ (.head _))))
      · cases List.mem_singleton.mp hp
        exact .head _
  case za => exact fun _ => rfl
  case zf =>
    subst e3
    rename oc.data = _ => hc
    exact ⟨fun _ h => (nomatch h), _, hc⟩
  case zp => exact ⟨Nat.le_refl _, rfl, Nat.zero_le _, fun _ h => nomatch h⟩
  case zt =>
    rintro ⟨items, n, oc1, key, total, tt⟩ tl pre post x t u h tk own hns hx hsep hoff ⟨hp, vc, hcell⟩ hP F1 N1
    dsimp only [List.cons_append, List.nil_append] at F1 N1 hp hcell
    (try k_fold)
    walk_at "MINE go"
    · refine Stop.o ?_
      rename News _ _ _ _ => nA
      rename Fr _ _ _ _ => fA
      refine powers_callI (num_eq x sh) (by k_asm) fA (by k_asm) nA (by k_asm) rfl (numOf_lt x sh) (by decide +kernel) (by decide +kernel) ?_
      intro D2 vs cc h2 tk2 F2 N2 off2 hvs
      (try k_fold)
      refine with_cell N2 (fun oS X eo eX => ?_)
      subst eo
      rename oS.data = _ => hS
      refine with_sg hS (fun sg tS eg et => ?_)
      have hS' : oS.data = .cell (some (.int sg tS)) := by rw [eg, et]; exact hS
      clear hS
      have hsg : sg = 1 ∨ sg = -1 := by first | exact .inl eg | exact .inr eg
      have hsz : vs.toArray.size = (bitsB (numOf x sh) 32).length := by rw [List.size_toArray, hvs.length, List.length_map]
      refine LCg.CompSrc.ledger rfl F2 N2 (.head _) (by rw [hsz, sizeLine_eq]; have := bits_len (numOf x sh); omega) (fun g => ?_)
      rw [hsz]
      refine compRest_of (fun i ys nw => ∃ add key', nw = RBase D2 H D X (listOf vs.toArray cc) (listOf items.toArray n) (listOf ws.toArray 0) (add ++ (tl ++ own)) ∧ RHeap x sh sg H D D2 X (listOf ws.toArray 0) own tl items key i ys add key') ?_ ?_ ?_
      all_goals (subst eX)
      · exact ⟨[], key, rfl, (fun _ h => nomatch h), rfl, (fun _ h => nomatch h), hp, fun _ _ => rfl⟩
      · rintro i ys nw v I oI C oC D3 m₂ h tk E' hi ⟨add, key', rfl, hR⟩ hv hC hx Fc Nc off ne'
        obtain ⟨t3, hv3⟩ := hvs.get i (((2 ^ (bitsB (numOf x sh) 32)[i] : Nat) : Int)) (by rw [List.getElem?_map, List.getElem?_eq_getElem hi]; rfl)
        have ev : v = .int (((2 ^ (bitsB (numOf x sh) 32)[i] : Nat) : Int)) t3 := by
          rw [List.getElem?_toArray] at hv
          rw [hv] at hv3
          exact Option.some.inj hv3
        subst ev
        (try k_fold)
        walk_at "MINE go"
        refine Stop.o ?_
        rename News _ _ _ _ => nT
        rename Fr _ _ _ _ => fT
        rename _ ∧ _ ∧ _ ∧ _ ∧ _ ∧ _ ∧ _ ∧ AllLt _ _ => hlt
        obtain ⟨a1, a2, a3, a4, a5, a6, a7, a8⟩ := hlt
        have a9 := allLt_mem a8
        exact LCg.CompEnd.intro fT nT (RBase D2 H D (_, oS) (listOf vs.toArray cc) (listOf items.toArray n) (listOf ws.toArray 0) ((_ :: add) ++ (tl ++ own))) comp_sub (comp_off off a1 a2 a3) (.inr ⟨_, .head _, rfl, _, rfl⟩) ⟨_ :: add, _, rfl, rheap_step hR hi a5 a6 a7 a4 a9⟩
      · rintro ys nw ⟨add, key', rfl, hR⟩
        intro D4 h4 tk4 F4 N4 o4
        (try k_fold)
        walk_at "MINE go"
        refine Stop.o ?_
        have hpre := ns_len hns
        have o5 := off1_mem o4
        refine extend_V (H := H) (items := items) (ys := ys) (b := D4) (n := n) (n2 := ys.length) F4 (kst_newsOf N4 comp_sub2) ?offa ?mema ?len1a ?len2a fun h5 n5 F5 N5 => ?_
        case offa =>
          intro p hp
          rcases List.mem_cons.mp hp with rfl | hp
          · exact Nat.ne_of_lt lH
          · rcases List.mem_cons.mp hp with rfl | hp
            · exact Nat.ne_of_gt lD.2.2.1
            · rcases List.mem_cons.mp hp with rfl | hp
              · exact (o5 _ (.tail _ (.head _))).symm
              · rcases List.mem_append.mp hp with hp | hp
                · exact (hR.off p hp).1
                · exact hoff p hp H (.head _)
        case mema => exact .tail _ (.tail _ (.head _))
        case len1a => have := hP.len; dsimp only at this; omega
        case len2a =>
          have := congrArg List.length hR.ysK
          rw [List.length_map, List.length_map, List.length_take] at this
          have := bits_len (numOf x sh)
          omega
        (try k_fold)
        walk_at "MINE go"
        refine Stop.o ?_
        rename News _ _ _ _ => nZ
        rename Fr _ _ _ _ => fZ
        refine' kd_end ⟨items ++ ys, n5, oS, key', total + sg * (numOf x sh : Int), ?tt2a⟩ add hsep fZ nZ ?yna ?yoa ?yaa ?yba ?ywa ?yka ?yra ?yfa ?ypa
        case yka =>
          rw [eg, ← num_eq]
          intro p hp
          cases List.mem_singleton.mp hp
          with_unfolding_all rfl
        case yra =>
          intro z h1 h2 h3
          simp only [List.forall_mem_cons, List.not_mem_nil, false_implies, implies_true, and_true, ne_eq] at h2
          simp only [List.contains_cons, List.contains_nil, Bool.or_false, Bool.or_eq_false_iff, beq_eq_false_iff_ne, ne_eq] at h3
          simp [h1, h2, h3, kstB]
        case yna =>
          intro p hp
          rcases List.mem_cons.mp hp with rfl | hp
          · exact .head _
          · rcases List.mem_cons.mp hp with rfl | hp
            · exact .tail _ (.head _)
            · rcases List.mem_cons.mp hp with rfl | hp
              · exact .tail _ (.tail _ (.head _))
              · refine .tail _ (.tail _ (.tail _ (.tail _ ?_)))
                rw [← List.append_assoc]
                exact List.mem_append_left _ hp
        case yoa => exact fun p hp => .tail _ (.tail _ (.tail _ (.tail _ (List.mem_append_right _ (List.mem_append_right _ hp)))))
        case yaa => rfl
        case yba =>
          intro q hq b hb
          have h9 := hR.off q hq
          rcases List.mem_cons.mp hb with rfl | hb
          · exact h9.1.symm
          · rcases List.mem_cons.mp hb with rfl | hb
            · exact h9.2.1.symm
            · rw [List.mem_singleton.mp hb]
              exact h9.2.2.1.symm
        case ywa => exact fun q hq => (hR.off q hq).2.2.2.2
        case yfa =>
          refine ⟨fun v hv => ?_, _, hS'⟩
          rcases List.mem_append.mp hv with hv | hv
          · exact hR.itP v hv
          · exact hR.ysP v hv
        case ypa => exact hp_step hP hsg (by have := hR.ysK; rw [List.take_length] at this; exact this) hR.itK
    · refine Stop.o ?_
      rename News _ _ _ _ => nA
      rename Fr _ _ _ _ => fA
      refine powers_callI (num_eq x sh) (by k_asm) fA (by k_asm) nA (by k_asm) rfl (numOf_lt x sh) (by decide +kernel) (by decide +kernel) ?_
      intro D2 vs cc h2 tk2 F2 N2 off2 hvs
      (try k_fold)
      refine with_cell N2 (fun oS X eo eX => ?_)
      subst eo
      rename oS.data = _ => hS
      refine with_sg hS (fun sg tS eg et => ?_)
      have hS' : oS.data = .cell (some (.int sg tS)) := by rw [eg, et]; exact hS
      clear hS
      have hsg : sg = 1 ∨ sg = -1 := by first | exact .inl eg | exact .inr eg
      have hsz : vs.toArray.size = (bitsB (numOf x sh) 32).length := by rw [List.size_toArray, hvs.length, List.length_map]
      refine LCg.CompSrc.ledger rfl F2 N2 (.head _) (by rw [hsz, sizeLine_eq]; have := bits_len (numOf x sh); omega) (fun g => ?_)
      rw [hsz]
      refine compRest_of (fun i ys nw => ∃ add key', nw = RBase D2 H D X (listOf vs.toArray cc) (listOf items.toArray n) (listOf ws.toArray 0) (add ++ (tl ++ own)) ∧ RHeap x sh sg H D D2 X (listOf ws.toArray 0) own tl items key i ys add key') ?_ ?_ ?_
      all_goals (subst eX)
      · exact ⟨[], key, rfl, (fun _ h => nomatch h), rfl, (fun _ h => nomatch h), hp, fun _ _ => rfl⟩
      · rintro i ys nw v I oI C oC D3 m₂ h tk E' hi ⟨add, key', rfl, hR⟩ hv hC hx Fc Nc off ne'
        obtain ⟨t3, hv3⟩ := hvs.get i (((2 ^ (bitsB (numOf x sh) 32)[i] : Nat) : Int)) (by rw [List.getElem?_map, List.getElem?_eq_getElem hi]; rfl)
        have ev : v = .int (((2 ^ (bitsB (numOf x sh) 32)[i] : Nat) : Int)) t3 := by
          rw [List.getElem?_toArray] at hv
          rw [hv] at hv3
          exact Option.some.inj hv3
        subst ev
        (try k_fold)
        walk_at "MINE go"
        refine Stop.o ?_
        rename News _ _ _ _ => nT
        rename Fr _ _ _ _ => fT
        rename _ ∧ _ ∧ _ ∧ _ ∧ _ ∧ _ ∧ _ ∧ AllLt _ _ => hlt
        obtain ⟨a1, a2, a3, a4, a5, a6, a7, a8⟩ := hlt
        have a9 := allLt_mem a8
        exact LCg.CompEnd.intro fT nT (RBase D2 H D (_, oS) (listOf vs.toArray cc) (listOf items.toArray n) (listOf ws.toArray 0) ((_ :: add) ++ (tl ++ own))) comp_sub (comp_off off a1 a2 a3) (.inr ⟨_, .head _, rfl, _, rfl⟩) ⟨_ :: add, _, rfl, rheap_step hR hi a5 a6 a7 a4 a9⟩
      · rintro ys nw ⟨add, key', rfl, hR⟩
        intro D4 h4 tk4 F4 N4 o4
        (try k_fold)
        walk_at "MINE go"
        refine Stop.o ?_
        have hpre := ns_len hns
        have o5 := off1_mem o4
        refine extend_V (H := H) (items := items) (ys := ys) (b := D4) (n := n) (n2 := ys.length) F4 (kst_newsOf N4 comp_sub2) ?offb ?memb ?len1b ?len2b fun h5 n5 F5 N5 => ?_
        case offb =>
          intro p hp
          rcases List.mem_cons.mp hp with rfl | hp
          · exact Nat.ne_of_lt lH
          · rcases List.mem_cons.mp hp with rfl | hp
            · exact Nat.ne_of_gt lD.2.2.1
            · rcases List.mem_cons.mp hp with rfl | hp
              · exact (o5 _ (.tail _ (.head _))).symm
              · rcases List.mem_append.mp hp with hp | hp
                · exact (hR.off p hp).1
                · exact hoff p hp H (.head _)
        case memb => exact .tail _ (.tail _ (.head _))
        case len1b => have := hP.len; dsimp only at this; omega
        case len2b =>
          have := congrArg List.length hR.ysK
          rw [List.length_map, List.length_map, List.length_take] at this
          have := bits_len (numOf x sh)
          omega
        (try k_fold)
        walk_at "MINE go"
        refine Stop.o ?_
        rename News _ _ _ _ => nZ
        rename Fr _ _ _ _ => fZ
        refine' kd_end ⟨items ++ ys, n5, oS, key', total + sg * (numOf x sh : Int), ?tt2b⟩ add hsep fZ nZ ?ynb ?yob ?yab ?ybb ?ywb ?ykb ?yrb ?yfb ?ypb
        case ykb =>
          rw [eg, ← num_eq]
          intro p hp
          cases List.mem_singleton.mp hp
          with_unfolding_all rfl
        case yrb =>
          intro z h1 h2 h3
          simp only [List.forall_mem_cons, List.not_mem_nil, false_implies, implies_true, and_true, ne_eq] at h2
          simp only [List.contains_cons, List.contains_nil, Bool.or_false, Bool.or_eq_false_iff, beq_eq_false_iff_ne, ne_eq] at h3
          simp [h1, h2, h3, kstB]
        case ynb =>
          intro p hp
          rcases List.mem_cons.mp hp with rfl | hp
          · exact .head _
          · rcases List.mem_cons.mp hp with rfl | hp
            · exact .tail _ (.head _)
            · rcases List.mem_cons.mp hp with rfl | hp
              · exact .tail _ (.tail _ (.head _))
              · refine .tail _ (.tail _ (.tail _ (.tail _ ?_)))
                rw [← List.append_assoc]
                exact List.mem_append_left _ hp
        case yob => exact fun p hp => .tail _ (.tail _ (.tail _ (.tail _ (List.mem_append_right _ (List.mem_append_right _ hp)))))
        case yab => rfl
        case ybb =>
          intro q hq b hb
          have h9 := hR.off q hq
          rcases List.mem_cons.mp hb with rfl | hb
          · exact h9.1.symm
          · rcases List.mem_cons.mp hb with rfl | hb
            · exact h9.2.1.symm
            · rw [List.mem_singleton.mp hb]
              exact h9.2.2.1.symm
        case ywb => exact fun q hq => (hR.off q hq).2.2.2.2
        case yfb =>
          refine ⟨fun v hv => ?_, _, hS'⟩
          rcases List.mem_append.mp hv with hv | hv
          · exact hR.itP v hv
          · exact hR.ysP v hv
        case ypb => exact hp_step hP hsg (by have := hR.ysK; rw [List.take_length] at this; exact this) hR.itK
  case zd =>
    rintro ⟨items, n, oc1, key, total, tt⟩ tl u h tk hoff ⟨hp, vc, hcell⟩ hP F1 N1
    dsimp only [List.cons_append, List.nil_append] at F1 N1 hp hcell
    (try k_fold)
    walk_at "MINE go"
    refine Stop.o ?_
    have hHne : ∀ p ∈ (D, listOf ws.toArray 0) :: tl, p.1 ≠ H := by
      intro p hp
      rcases List.mem_cons.mp hp with rfl | hp
      · exact Nat.ne_of_gt lD.2.2.1
      · exact hoff p hp H (.head _)
    have hlen0 := hP.len
    dsimp only at hlen0
    rename Fr _ _ _ _ => fA
    refine heapify_call (H := H) (items := items) (n := n) (tl := (D, listOf ws.toArray 0) :: tl) (key := key) (by k_asm) fA (by k_asm) (kst_newsOf N1 fun p hp => ?_) (by k_asm) rfl hHne hp (by have := ns_len7 hlen0; omega) (by decide +kernel) (by decide +kernel) ?_
    · rcases List.mem_cons.mp hp with rfl | hp
      · exact .head _
      · exact .tail _ (.tail _ hp)
    intro h2 tk2 F2 N2
    (try k_fold)
    walk_at "MINE go"
    refine Stop.o ?_
    rename Fr _ _ _ _ => fW
    rename News _ _ _ _ => nW
    refine with_addr nW (fun Tl eT => ?_)
    subst eT
    rename _ ∧ _ => lT
    refine' ksw_while (σ := MS) (fun c => (H, listOf c.items.toArray c.n) :: (Tl, listOf c.tv.toArray c.tn) :: c.tl) (fun c => [(Str.ofString "held", .int c.held c.ht)])
      (fun c => (∀ v ∈ c.items, IsP c.tl c.key v) ∧ IntsAre c.tv c.ds ∧ ∀ e ∈ c.tl, e.1 ≠ H ∧ e.1 ≠ Tl) [Str.ofString "size", Str.ofString "item", Str.ofString "other", Str.ofString "came"]
      (fun c => Good total c.key c.items c.ds c.held) (fun c => mu c.items c.held)
      ⟨hfy (ltK key) .none items, n, [], 0, [], 0, ?tk0, key, (D, listOf ws.toArray 0) :: tl⟩ fW (kst_newsOf nW ?wn) ?wf ?wk ?wp ?wt
    case wk =>
      intro p hp
      cases List.mem_singleton.mp hp
      with_unfolding_all rfl
    case wn =>
      intro p hp
      rcases List.mem_cons.mp hp with rfl | hp
      · exact .tail _ (.head _)
      · rcases List.mem_cons.mp hp with rfl | hp
        · exact .head _
        · exact .tail _ (.tail _ hp)
    case wf =>
      refine ⟨fun v hv => hp v ((hfy_perm (lt := ltK key) (d := .none)).mem_iff.mp hv), .nil, fun e he => ⟨hHne e he, ?_⟩⟩
      rcases List.mem_cons.mp he with rfl | he
      · exact Nat.ne_of_lt lT.2.1
      · exact Nat.ne_of_lt (allLt_mem lT.2.2 e he)
    case wp => exact good_start hP.sum hP.pow (by have := ns_len7 hlen0; omega)
    case wt =>
      rintro ⟨items, n, tv, tn, ds, held, ht, key, tl⟩ u2 h tk ⟨hp, hds, hoff⟩ hG F1 N1
      dsimp only at F1 N1 hp hds hoff hG
      have hlen9 := hG.len
      have hHT : H ≠ Tl := Nat.ne_of_lt lT.1
      by_cases hpos : 0 < items.length
      · (try k_fold)
        walk_at "MINE go"
        refine Stop.o ?_
        rename Fr _ _ _ _ => fA
        rename News _ _ _ _ => nA
        have hH9 : ∀ e ∈ (Tl, listOf tv.toArray tn) :: tl, e.1 ≠ H := fun e he => by
          rcases List.mem_cons.mp he with rfl | he
          · exact hHT.symm
          · exact (hoff e he).1
        refine heappop_call (H := H) (items := items) (n := n) (tl := (Tl, listOf tv.toArray tn) :: tl) (key := key) (by k_asm) fA (by k_asm) nA (by k_asm) rfl hH9 (fun v hv => PairIn.mono (hp v hv) fun _ h => .tail _ h) hpos (by omega) (by decide +kernel) (by decide +kernel) ?_
        intro h2 tk2 F2 N2
        obtain ⟨hPop, hl1, hv0, hu1⟩ := good_pop hG hpos
        revert F2 N2 hPop hl1 hv0 hu1
        generalize hpop (ltK key) .none items = pp
        obtain ⟨v0, items1⟩ := pp
        dsimp only
        intro F2 N2 hPop hl1 hv0 hu1
        obtain ⟨a0, t1, t2, c0, ev, hm0⟩ := hp v0 hv0
        subst ev
        obtain ⟨x0, y0, hk0⟩ : ∃ x y, key (.ref a0) = (x, y) := ⟨_, _, rfl⟩
        rw [hk0] at hm0
        dsimp only at hm0
        have hp1 : ∀ v ∈ items1, IsP tl key v := fun v hv => hp v (hu1 v hv)
        have N3 := kst_newsOf (l' := (H, listOf items1.toArray (n + 1)) :: (Tl, listOf tv.toArray tn) :: (a0, tup2 x0 y0 t1 t2 c0) :: tl) N2 (fun p hp => by
          rcases List.mem_cons.mp hp with rfl | hp
          · exact .head _
          · rcases List.mem_cons.mp hp with rfl | hp
            · exact .tail _ (.head _)
            · rcases List.mem_cons.mp hp with rfl | hp
              · exact .tail _ (.tail _ hm0)
              · exact .tail _ (.tail _ hp))
        clear N2
        by_cases hne : 0 < items1.length
        · obtain ⟨b0, u1, u2, d0, eb, hmb⟩ := hp1 (items1.getD 0 .none) (getD_mem' hne)
          obtain ⟨x1, y1, hk1⟩ : ∃ x y, key (items1.getD 0 .none) = (x, y) := ⟨_, _, rfl⟩
          rw [hk1] at hmb
          dsimp only at hmb
          have N4 := kst_newsOf (l' := (H, listOf items1.toArray (n + 1)) :: (Tl, listOf tv.toArray tn) :: (a0, tup2 x0 y0 t1 t2 c0) :: (b0, tup2 x1 y1 u1 u2 d0) :: tl) N3 (fun p hp => by
            rcases List.mem_cons.mp hp with rfl | hp
            · exact .head _
            · rcases List.mem_cons.mp hp with rfl | hp
              · exact .tail _ (.head _)
              · rcases List.mem_cons.mp hp with rfl | hp
                · exact .tail _ (.tail _ (.head _))
                · rcases List.mem_cons.mp hp with rfl | hp
                  · exact .tail _ (.tail _ (.tail _ hmb))
                  · exact .tail _ (.tail _ (.tail _ hp)))
          clear N3
          (try k_fold)
          walk_at "MINE go"
          · refine Stop.o ?_
            rename x1 = x0 => exx
            rename y0 + y1 = 0 => eyy
            rename Fr _ _ _ _ => fB
            rename News _ _ _ _ => nB
            refine heappop_call (H := H) (items := items1) (n := n + 1) (tl := (Tl, listOf tv.toArray tn) :: tl) (key := key) (by k_asm) fB (by k_asm) (kst_newsOf nB (by intro p hp; simp only [List.mem_cons] at hp ⊢; rcases hp with h | h | h <;> simp [h])) (by k_asm) rfl hH9 (fun v hv => PairIn.mono (hp1 v hv) fun _ h => .tail _ h) hne (by omega) (by decide +kernel) (by decide +kernel) ?_
            intro h5 tk5 F5 N5
            rw [(hpop_fst hne).trans eb]
            have N6 := kst_newsOf (l' := (H, listOf (hpop (ltK key) .none items1).2.toArray (n + 1 + 1)) :: (Tl, listOf tv.toArray tn) :: (b0, tup2 x1 y1 u1 u2 d0) :: tl) N5 (fun p hp => by
              rcases List.mem_cons.mp hp with rfl | hp
              · exact .head _
              · rcases List.mem_cons.mp hp with rfl | hp
                · exact .tail _ (.head _)
                · rcases List.mem_cons.mp hp with rfl | hp
                  · exact .tail _ (.tail _ hmb)
                  · exact .tail _ (.tail _ hp))
            clear N5
            have hl2 := (hpop_perm (lt := ltK key) (d := Value.none) hne).length_eq
            rw [List.length_cons] at hl2
            (try k_fold)
            walk_at "MINE go"
            refine Stop.o ?_
            rename Fr _ _ _ _ => fC
            rename News _ _ _ _ => nC
            refine' ksw_end ⟨(hpop (ltK key) .none items1).2, n + 1 + 1, tv, tn, ds, held, _, key, tl⟩ fC nC ?snA ?sfA ?skA ?srA ?spA ?smA
            case skA =>
              intro p hp
              cases List.mem_singleton.mp hp
              with_unfolding_all rfl
            case srA =>
              intro z h2 h3
              simp only [List.forall_mem_cons, List.not_mem_nil, false_implies, implies_true, and_true, ne_eq] at h2
              simp only [List.contains_cons, List.contains_nil, Bool.or_false, Bool.or_eq_false_iff, beq_eq_false_iff_ne, ne_eq] at h3
              simp [h2, h3, kstB]
            case snA =>
              intro p hp
              simp only [List.mem_cons] at hp ⊢
              rcases hp with h | h | h <;> simp [h]
            case sfA => exact ⟨fun v hv => hp1 v ((hpop_perm hne).mem_iff.mp (.tail _ hv)), hds, hoff⟩
            case spA => exact good_cancel hPop hne (by dsimp only; rw [hk1, hk0]; exact exx) (by dsimp only; rw [hk0, hk1]; exact eyy)
            case smA =>
              dsimp only
              unfold mu
              omega
          · refine Stop.o ?_
            rename x1 = x0 => exx
            rename y0 + y1 ≠ 0 => eyy
            rename Fr _ _ _ _ => fB
            rename News _ _ _ _ => nB
            refine with_tup nB (fun z z1 z2 ez nB' => ?_)
            subst ez
            rename _ < z ∧ _ < z ∧ _ < z ∧ _ < z ∧ AllLt z _ => lz
            have hz9 : ∀ q ∈ tl, q.1 ≠ z := fun q hq => Nat.ne_of_lt (allLt_mem lz.2.2.2.2 q hq)
            have hHz : ∀ e ∈ (Tl, listOf tv.toArray tn) :: (z, tup2 0 0 z1 z2 0) :: tl, e.1 ≠ H := fun e he => by
              rcases List.mem_cons.mp he with rfl | he
              · exact hHT.symm
              · rcases List.mem_cons.mp he with rfl | he
                · exact Nat.ne_of_gt lz.1
                · exact (hoff e he).1
            have hkz : ∀ u ∈ items1, ext key z (0, 0) u = key u := fun u hu => ext_old (hp1 u hu) hz9
            refine heapreplace_call (H := H) (items := items1) (n := n + 1) (v := .ref z) (tl := (Tl, listOf tv.toArray tn) :: (z, tup2 0 0 z1 z2 0) :: tl) (key := ext key z (0, 0)) (by k_asm) fB (by k_asm) (kst_newsOf nB' (by intro p hp; simp only [List.mem_cons] at hp ⊢; rcases hp with h | h | h | h <;> simp [h])) (by k_asm) rfl hHz
              (fun v hv => isP_ext (hp1 v hv) hz9 fun _ h => .tail _ (.tail _ h)) (isP_new (.tail _ (.head _))) hne (by omega) (by decide +kernel) (by decide +kernel) ?_
            intro h5 tk5 F5 N5
            have er : (hrepl (ltK (ext key z (0, 0))) .none items1 (.ref z)).1 = .ref b0 := eb
            rw [er]
            obtain ⟨m1, m2, m3, m4⟩ := mark_top (key := ext key z (0, 0)) (z := .ref z) (heapK_congr hPop.heap hkz) hne (fun u hu => by rw [hkz u hu]; exact hPop.pow u hu) ext_self
            have hH2 := hrepl_heap (ordK (ext key z (0, 0))) (v := .ref z) (heapK_congr hPop.heap hkz) hne
            have hpm : (items1.getD 0 .none :: (hrepl (ltK (ext key z (0, 0))) .none items1 (.ref z)).2).Perm (.ref z :: items1) := hrepl_perm hne
            revert N5 m1 m2 m3 m4 hH2 hpm
            generalize (hrepl (ltK (ext key z (0, 0))) .none items1 (.ref z)).2 = items2
            intro N5 m1 m2 m3 m4 hH2 hpm
            have N6 := kst_newsOf (l' := (H, listOf items2.toArray (n + 1)) :: (Tl, listOf tv.toArray tn) :: (z, tup2 0 0 z1 z2 0) :: (b0, tup2 x1 y1 u1 u2 d0) :: tl) N5 (fun p hp => by
              rcases List.mem_cons.mp hp with rfl | hp
              · exact .head _
              · rcases List.mem_cons.mp hp with rfl | hp
                · exact .tail _ (.head _)
                · rcases List.mem_cons.mp hp with rfl | hp
                  · exact .tail _ (.tail _ (.head _))
                  · rcases List.mem_cons.mp hp with rfl | hp
                    · exact .tail _ (.tail _ (.tail _ hmb))
                    · exact .tail _ (.tail _ (.tail _ hp)))
            clear N5
            (try k_fold)
            walk_at "MINE go"
            refine Stop.o ?_
            rename Fr _ _ _ _ => fC
            rename News _ _ _ _ => nC
            refine with_tup nC (fun y w1 w2 ey nC' => ?_)
            subst ey
            rename _ < y ∧ _ < y ∧ _ < y ∧ _ < y ∧ AllLt y _ => ly
            have hy9 : ∀ q ∈ (z, tup2 0 0 z1 z2 0) :: tl, q.1 ≠ y := fun q hq => by
              rcases List.mem_cons.mp hq with rfl | hq
              · exact Nat.ne_of_lt ly.2.2.1
              · exact Nat.ne_of_lt (allLt_mem ly.2.2.2.2 q hq)
            have hp2 : ∀ v ∈ items2, IsP ((z, tup2 0 0 z1 z2 0) :: tl) (ext key z (0, 0)) v := fun v hv => by
              rcases m4 v hv with rfl | hv
              · exact isP_new (.head _)
              · exact isP_ext (hp1 v hv) hz9 fun _ h => .tail _ h
            have hHy : ∀ e ∈ (Tl, listOf tv.toArray tn) :: (y, tup2 (2 * x0) (y0 + y1) w1 w2 0) :: (z, tup2 0 0 z1 z2 0) :: tl, e.1 ≠ H := fun e he => by
              rcases List.mem_cons.mp he with rfl | he
              · exact hHT.symm
              · rcases List.mem_cons.mp he with rfl | he
                · exact Nat.ne_of_gt ly.1
                · exact hHz e (.tail _ he)
            refine heapreplace_call (H := H) (items := items2) (n := n + 1) (v := .ref y) (tl := (Tl, listOf tv.toArray tn) :: (y, tup2 (2 * x0) (y0 + y1) w1 w2 0) :: (z, tup2 0 0 z1 z2 0) :: tl) (key := ext (ext key z (0, 0)) y (2 * x0, y0 + y1)) (by k_asm) fC (by k_asm)
              (kst_newsOf nC' (by intro p hp; simp only [List.mem_cons] at hp ⊢; rcases hp with h | h | h | h | h <;> simp [h])) (by k_asm) rfl hHy
              (fun v hv => isP_ext (hp2 v hv) hy9 fun _ h => .tail _ (.tail _ h)) (isP_new (.tail _ (.head _))) m2 (by omega) (by decide +kernel) (by decide +kernel) ?_
            intro h6 tk6 F6 N7
            have er2 : (hrepl (ltK (ext (ext key z (0, 0)) y (2 * x0, y0 + y1))) .none items2 (.ref y)).1 = .ref z := m1
            rw [er2]
            have hk2 : ∀ u, IsP tl key u → ext (ext key z (0, 0)) y (2 * x0, y0 + y1) u = key u := fun u hu => (ext_old (isP_ext hu hz9 fun _ h => List.Mem.tail (z, tup2 0 0 z1 z2 0) h) hy9).trans (ext_old hu hz9)
            have hpa : IsP tl key (.ref a0) := hp _ hv0
            have hpt : IsP tl key (items1.getD 0 .none) := hp1 _ (getD_mem' hne)
            obtain ⟨g1, g2, g3⟩ := good_merge (key := ext (ext key z (0, 0)) y (2 * x0, y0 + y1)) (v := .ref a0) (z := .ref z) (y := .ref y) (good_key hPop (fun u hu => hk2 u (hp1 u hu)) (hk2 _ hpa)) hne
              (by rw [hk2 _ hpt, hk2 _ hpa, hk1, hk0]; exact exx) (by rw [hk2 _ hpt, hk2 _ hpa, hk1, hk0]; exact eyy) ((ext_old (isP_new (.head _)) hy9).trans ext_self) (by rw [ext_self, hk2 _ hpt, hk2 _ hpa, hk1, hk0])
              (heapK_congr hH2 fun u hu => ext_old (hp2 u hu) hy9) hpm m1 m2
            revert N7 g1 g2 g3
            generalize (hrepl (ltK (ext (ext key z (0, 0)) y (2 * x0, y0 + y1))) .none items2 (.ref y)).2 = items3
            intro N7 g1 g2 g3
            have N8 := kst_newsOf (l' := (H, listOf items3.toArray (n + 1)) :: (Tl, listOf tv.toArray tn) :: (y, tup2 (2 * x0) (y0 + y1) w1 w2 0) :: (z, tup2 0 0 z1 z2 0) :: (b0, tup2 x1 y1 u1 u2 d0) :: tl) N7 (fun p hp => by
              rcases List.mem_cons.mp hp with rfl | hp
              · exact .head _
              · rcases List.mem_cons.mp hp with rfl | hp
                · exact .tail _ (.head _)
                · rcases List.mem_cons.mp hp with rfl | hp
                  · exact .tail _ (.tail _ (.head _))
                  · rcases List.mem_cons.mp hp with rfl | hp
                    · exact .tail _ (.tail _ (.tail _ (.head _)))
                    · rcases List.mem_cons.mp hp with rfl | hp
                      · exact .tail _ (.tail _ (.tail _ (.tail _ hmb)))
                      · exact .tail _ (.tail _ (.tail _ (.tail _ hp))))
            clear N7
            (try k_fold)
            walk_at "MINE go"
            refine Stop.o ?_
            rename Fr _ _ _ _ => fD
            rename News _ _ _ _ => nD
            refine' ksw_end ⟨items3, n + 1, tv, tn, ds, held, _, ext (ext key z (0, 0)) y (2 * x0, y0 + y1), (y, tup2 (2 * x0) (y0 + y1) w1 w2 0) :: (z, tup2 0 0 z1 z2 0) :: tl⟩ fD nD ?snB ?sfB ?skB ?srB ?spB ?smB
            case skB =>
              intro p hp
              cases List.mem_singleton.mp hp
              with_unfolding_all rfl
            case srB =>
              intro z h2 h3
              simp only [List.forall_mem_cons, List.not_mem_nil, false_implies, implies_true, and_true, ne_eq] at h2
              simp only [List.contains_cons, List.contains_nil, Bool.or_false, Bool.or_eq_false_iff, beq_eq_false_iff_ne, ne_eq] at h3
              simp [h2, h3, kstB]
            case snB =>
              intro p hp
              simp only [List.mem_cons] at hp ⊢
              rcases hp with h | h | h | h | h <;> simp [h]
            case sfB => exact ⟨fun v hv => by
                rcases g3 v hv with rfl | hv
                · exact isP_new (.head _)
                · exact isP_ext (isP_ext (hp1 v hv) hz9 fun _ h => List.Mem.tail (z, tup2 0 0 z1 z2 0) h) hy9 fun _ h => .tail _ h, hds, fun e he => by
                rcases List.mem_cons.mp he with rfl | he
                · exact ⟨Nat.ne_of_gt ly.1, Nat.ne_of_gt ly.2.1⟩
                · rcases List.mem_cons.mp he with rfl | he
                  · exact ⟨Nat.ne_of_gt lz.1, Nat.ne_of_gt lz.2.1⟩
                  · exact hoff e he⟩
            case spB => exact g1
            case smB =>
              dsimp only
              unfold mu
              omega
          · refine Stop.o ?_
            rename x1 ≠ x0 => nxx
            have ha := popped_alone hPop (fun _ => by rw [hk1, hk0]; exact nxx)
            rename 2 * _ = x0 => e2
            have e2' : 2 * (held.natAbs : Int) = (key (.ref a0)).1 := by rw [hk0, ← abs_eq]; exact e2
            have hx0 := hPop.vpow.pos
            have hh0 : held ≠ 0 := by intro e; rw [e] at e2'; rw [← e2'] at hx0; exact absurd hx0 (by decide)
            have hone := one_ne hh0
            rename Fr _ _ _ _ => fB
            rename News _ _ _ _ => nB
            refine append_I hds fB (kst_newsOf (l' := (Tl, listOf tv.toArray tn) :: (H, listOf items1.toArray (n + 1)) :: tl) nB (by intro p hp; simp only [List.mem_cons] at hp ⊢; rcases hp with h | h | h <;> simp [h])) (fun e he => by
              rcases List.mem_cons.mp he with rfl | he
              · exact hHT
              · exact (hoff e he).2) (by omega) fun h5 tv2 hds2 F5 N5 => ?_
            (try k_fold)
            walk_at "MINE go"
            · refine Stop.o ?_
              rename y0 + 2 * held ≠ 0 => ehz
              rename Fr _ _ _ _ => fC
              rename News _ _ _ _ => nC
              refine with_tup nC (fun y w1 w2 ey nC' => ?_)
              subst ey
              rename _ < y ∧ _ < y ∧ AllLt y _ => ly
              have hy9 : ∀ q ∈ tl, q.1 ≠ y := fun q hq => Nat.ne_of_lt (allLt_mem ly.2.2 q hq)
              have hHy : ∀ e ∈ (Tl, listOf tv2.toArray (tn + 1)) :: (y, tup2 (2 * x0) (y0 + 2 * held) w1 w2 0) :: tl, e.1 ≠ H := fun e he => by
                rcases List.mem_cons.mp he with rfl | he
                · exact hHT.symm
                · rcases List.mem_cons.mp he with rfl | he
                  · exact Nat.ne_of_gt ly.2.1
                  · exact (hoff e he).1
              have hky : ∀ u, IsP tl key u → ext key y (2 * x0, y0 + 2 * held) u = key u := fun u hu => ext_old hu hy9
              have hpa : IsP tl key (.ref a0) := hp _ hv0
              refine heappush_call (H := H) (items := items1) (n := n + 1) (v := .ref y) (tl := (Tl, listOf tv2.toArray (tn + 1)) :: (y, tup2 (2 * x0) (y0 + 2 * held) w1 w2 0) :: tl) (key := ext key y (2 * x0, y0 + 2 * held)) (by k_asm) fC (by k_asm) (kst_newsOf nC' (by intro p hp; simp only [List.mem_cons] at hp ⊢; rcases hp with h | h | h | h <;> simp [h])) (by k_asm) rfl hHy
                (fun v hv => isP_ext (hp1 v hv) hy9 fun _ h => .tail _ (.tail _ h)) (isP_new (.tail _ (.head _))) (by omega) (by decide +kernel) (by decide +kernel) ?_
              intro h6 tk6 F6 N6
              have g1 := good_twice (key := ext key y (2 * x0, y0 + 2 * held)) (v := .ref a0) (y := .ref y) (good_key hPop (fun u hu => hky u (hp1 u hu)) (hky _ hpa)) (fun u hu => by rw [hky u (hp1 u hu), hky _ hpa]; exact ha u hu) (by rw [hky _ hpa]; exact e2') (by rw [hky _ hpa, hk0]; exact ehz) (by rw [ext_self, hky _ hpa, hk0])
              have g2 := (hpush_perm (lt := ltK (ext key y (2 * x0, y0 + 2 * held))) (d := Value.none) (xs := items1) (v := .ref y))
              revert N6 g1 g2
              generalize hpush (ltK (ext key y (2 * x0, y0 + 2 * held))) .none items1 (.ref y) = items3
              intro N6 g1 g2
              have hl3 := g2.length_eq
              rw [List.length_cons] at hl3
              (try k_fold)
              walk_at "MINE go"
              refine Stop.o ?_
              rename Fr _ _ _ _ => fD
              rename News _ _ _ _ => nD
              refine' ksw_end ⟨items3, n + 1 + 1, tv2, tn + 1, ds ++ [-held], 0, _, ext key y (2 * x0, y0 + 2 * held), (y, tup2 (2 * x0) (y0 + 2 * held) w1 w2 0) :: tl⟩ fD nD ?snPC ?sfPC ?skPC ?srPC ?spPC ?smPC
              case skPC =>
                intro p hp
                cases List.mem_singleton.mp hp
                with_unfolding_all rfl
              case srPC =>
                intro z h2 h3
                simp only [List.forall_mem_cons, List.not_mem_nil, false_implies, implies_true, and_true, ne_eq] at h2
                simp only [List.contains_cons, List.contains_nil, Bool.or_false, Bool.or_eq_false_iff, beq_eq_false_iff_ne, ne_eq] at h3
                simp [h2, h3, kstB]
              case snPC =>
                intro p hp
                simp only [List.mem_cons] at hp ⊢
                rcases hp with h | h | h | h <;> simp [h]
              case sfPC => exact ⟨fun v hv => by
                  rcases List.mem_cons.mp (g2.mem_iff.mp hv) with rfl | hv
                  · exact isP_new (.head _)
                  · exact isP_ext (hp1 v hv) hy9 fun _ h => .tail _ h, hds2, fun e he => by
                  rcases List.mem_cons.mp he with rfl | he
                  · exact ⟨Nat.ne_of_gt ly.2.1, Nat.ne_of_gt ly.1⟩
                  · exact hoff e he⟩
              case spPC => exact g1
              case smPC =>
                dsimp only
                unfold mu
                rw [one_zero]; omega
            · refine Stop.o ?_
              rename y0 + 2 * held = 0 => ehz
              rename Fr _ _ _ _ => fD
              rename News _ _ _ _ => nD
              refine' ksw_end ⟨items1, n + 1, tv2, tn + 1, ds ++ [-held], 0, _, key, tl⟩ fD nD ?snPD ?sfPD ?skPD ?srPD ?spPD ?smPD
              case skPD =>
                intro p hp
                cases List.mem_singleton.mp hp
                with_unfolding_all rfl
              case srPD =>
                intro z h2 h3
                simp only [List.forall_mem_cons, List.not_mem_nil, false_implies, implies_true, and_true, ne_eq] at h2
                simp only [List.contains_cons, List.contains_nil, Bool.or_false, Bool.or_eq_false_iff, beq_eq_false_iff_ne, ne_eq] at h3
                simp [h2, h3, kstB]
              case snPD =>
                intro p hp
                simp only [List.mem_cons] at hp ⊢
                rcases hp with h | h | h <;> simp [h]
              case sfPD => exact ⟨hp1, hds2, hoff⟩
              case spPD => exact good_twice0 hPop ha e2' (by dsimp only; rw [hk0]; exact ehz)
              case smPD =>
                dsimp only
                unfold mu
                rw [one_zero]; omega
          · refine Stop.o ?_
            rename x1 ≠ x0 => nxx
            have ha := popped_alone hPop (fun _ => by rw [hk1, hk0]; exact nxx)
            rename 2 * _ ≠ x0 => e2
            rename held ≠ 0 => hh0
            have e2' : 2 * (held.natAbs : Int) ≠ (key (.ref a0)).1 := by rw [hk0, ← abs_eq]; exact e2
            rename Fr _ _ _ _ => fB
            rename News _ _ _ _ => nB
            refine append_I hds fB (kst_newsOf (l' := (Tl, listOf tv.toArray tn) :: (H, listOf items1.toArray (n + 1)) :: tl) nB (by intro p hp; simp only [List.mem_cons] at hp ⊢; rcases hp with h | h | h <;> simp [h])) (fun e he => by
              rcases List.mem_cons.mp he with rfl | he
              · exact hHT
              · exact (hoff e he).2) (by omega) fun h5 tv2 hds2 F5 N5 => ?_
            (try k_fold)
            walk_at "MINE go"
            refine Stop.o ?_
            rename Fr _ _ _ _ => fD
            rename News _ _ _ _ => nD
            refine' ksw_end ⟨items1, n + 1, tv2, tn + 1, ds ++ [held], y0, _, key, tl⟩ fD nD ?snPE ?sfPE ?skPE ?srPE ?spPE ?smPE
            case skPE =>
              intro p hp
              cases List.mem_singleton.mp hp
              with_unfolding_all rfl
            case srPE =>
              intro z h2 h3
              simp only [List.forall_mem_cons, List.not_mem_nil, false_implies, implies_true, and_true, ne_eq] at h2
              simp only [List.contains_cons, List.contains_nil, Bool.or_false, Bool.or_eq_false_iff, beq_eq_false_iff_ne, ne_eq] at h3
              simp [h2, h3, kstB]
            case snPE =>
              intro p hp
              simp only [List.mem_cons] at hp ⊢
              rcases hp with h | h | h <;> simp [h]
            case sfPE => exact ⟨hp1, hds2, hoff⟩
            case spPE => exact (by have := good_wait hPop ha e2' hh0; rw [hk0] at this; exact this)
            case smPE =>
              dsimp only
              unfold mu
              have := one_le y0; have := one_le held; omega
          · refine Stop.o ?_
            rename x1 ≠ x0 => nxx
            have ha := popped_alone hPop (fun _ => by rw [hk1, hk0]; exact nxx)
            rename held = 0 => hh0
            rename Fr _ _ _ _ => fD
            rename News _ _ _ _ => nD
            refine' ksw_end ⟨items1, n + 1, tv, tn, ds, y0, _, key, tl⟩ fD nD ?snPF ?sfPF ?skPF ?srPF ?spPF ?smPF
            case skPF =>
              intro p hp
              cases List.mem_singleton.mp hp
              with_unfolding_all rfl
            case srPF =>
              intro z h2 h3
              simp only [List.forall_mem_cons, List.not_mem_nil, false_implies, implies_true, and_true, ne_eq] at h2
              simp only [List.contains_cons, List.contains_nil, Bool.or_false, Bool.or_eq_false_iff, beq_eq_false_iff_ne, ne_eq] at h3
              simp [h2, h3, kstB]
            case snPF =>
              intro p hp
              simp only [List.mem_cons] at hp ⊢
              rcases hp with h | h | h <;> simp [h]
            case sfPF => exact ⟨hp1, hds, hoff⟩
            case spPF => exact (by have := good_wait0 hPop ha hh0; rw [hk0] at this; exact this)
            case smPF =>
              dsimp only
              unfold mu
              have := one_le y0; have := one_le held; omega
        · (try k_fold)
          walk_at "MINE go"
          · refine Stop.o ?_
            have ha := popped_alone hPop (fun h => absurd h hne)
            rename 2 * _ = x0 => e2
            have e2' : 2 * (held.natAbs : Int) = (key (.ref a0)).1 := by rw [hk0, ← abs_eq]; exact e2
            have hx0 := hPop.vpow.pos
            have hh0 : held ≠ 0 := by intro e; rw [e] at e2'; rw [← e2'] at hx0; exact absurd hx0 (by decide)
            have hone := one_ne hh0
            rename Fr _ _ _ _ => fB
            rename News _ _ _ _ => nB
            refine append_I hds fB (kst_newsOf (l' := (Tl, listOf tv.toArray tn) :: (H, listOf items1.toArray (n + 1)) :: tl) nB (by intro p hp; simp only [List.mem_cons] at hp ⊢; rcases hp with h | h | h <;> simp [h])) (fun e he => by
              rcases List.mem_cons.mp he with rfl | he
              · exact hHT
              · exact (hoff e he).2) (by omega) fun h5 tv2 hds2 F5 N5 => ?_
            (try k_fold)
            walk_at "MINE go"
            · refine Stop.o ?_
              rename y0 + 2 * held ≠ 0 => ehz
              rename Fr _ _ _ _ => fC
              rename News _ _ _ _ => nC
              refine with_tup nC (fun y w1 w2 ey nC' => ?_)
              subst ey
              rename _ < y ∧ _ < y ∧ AllLt y _ => ly
              have hy9 : ∀ q ∈ tl, q.1 ≠ y := fun q hq => Nat.ne_of_lt (allLt_mem ly.2.2 q hq)
              have hHy : ∀ e ∈ (Tl, listOf tv2.toArray (tn + 1)) :: (y, tup2 (2 * x0) (y0 + 2 * held) w1 w2 0) :: tl, e.1 ≠ H := fun e he => by
                rcases List.mem_cons.mp he with rfl | he
                · exact hHT.symm
                · rcases List.mem_cons.mp he with rfl | he
                  · exact Nat.ne_of_gt ly.2.1
                  · exact (hoff e he).1
              have hky : ∀ u, IsP tl key u → ext key y (2 * x0, y0 + 2 * held) u = key u := fun u hu => ext_old hu hy9
              have hpa : IsP tl key (.ref a0) := hp _ hv0
              refine heappush_call (H := H) (items := items1) (n := n + 1) (v := .ref y) (tl := (Tl, listOf tv2.toArray (tn + 1)) :: (y, tup2 (2 * x0) (y0 + 2 * held) w1 w2 0) :: tl) (key := ext key y (2 * x0, y0 + 2 * held)) (by k_asm) fC (by k_asm) (kst_newsOf nC' (by intro p hp; simp only [List.mem_cons] at hp ⊢; rcases hp with h | h | h | h <;> simp [h])) (by k_asm) rfl hHy
                (fun v hv => isP_ext (hp1 v hv) hy9 fun _ h => .tail _ (.tail _ h)) (isP_new (.tail _ (.head _))) (by omega) (by decide +kernel) (by decide +kernel) ?_
              intro h6 tk6 F6 N6
              have g1 := good_twice (key := ext key y (2 * x0, y0 + 2 * held)) (v := .ref a0) (y := .ref y) (good_key hPop (fun u hu => hky u (hp1 u hu)) (hky _ hpa)) (fun u hu => by rw [hky u (hp1 u hu), hky _ hpa]; exact ha u hu) (by rw [hky _ hpa]; exact e2') (by rw [hky _ hpa, hk0]; exact ehz) (by rw [ext_self, hky _ hpa, hk0])
              have g2 := (hpush_perm (lt := ltK (ext key y (2 * x0, y0 + 2 * held))) (d := Value.none) (xs := items1) (v := .ref y))
              revert N6 g1 g2
              generalize hpush (ltK (ext key y (2 * x0, y0 + 2 * held))) .none items1 (.ref y) = items3
              intro N6 g1 g2
              have hl3 := g2.length_eq
              rw [List.length_cons] at hl3
              (try k_fold)
              walk_at "MINE go"
              refine Stop.o ?_
              rename Fr _ _ _ _ => fD
              rename News _ _ _ _ => nD
              refine' ksw_end ⟨items3, n + 1 + 1, tv2, tn + 1, ds ++ [-held], 0, _, ext key y (2 * x0, y0 + 2 * held), (y, tup2 (2 * x0) (y0 + 2 * held) w1 w2 0) :: tl⟩ fD nD ?snNC ?sfNC ?skNC ?srNC ?spNC ?smNC
              case skNC =>
                intro p hp
                cases List.mem_singleton.mp hp
                with_unfolding_all rfl
              case srNC =>
                intro z h2 h3
                simp only [List.forall_mem_cons, List.not_mem_nil, false_implies, implies_true, and_true, ne_eq] at h2
                simp only [List.contains_cons, List.contains_nil, Bool.or_false, Bool.or_eq_false_iff, beq_eq_false_iff_ne, ne_eq] at h3
                simp [h2, h3, kstB]
              case snNC =>
                intro p hp
                simp only [List.mem_cons] at hp ⊢
                rcases hp with h | h | h | h <;> simp [h]
              case sfNC => exact ⟨fun v hv => by
                  rcases List.mem_cons.mp (g2.mem_iff.mp hv) with rfl | hv
                  · exact isP_new (.head _)
                  · exact isP_ext (hp1 v hv) hy9 fun _ h => .tail _ h, hds2, fun e he => by
                  rcases List.mem_cons.mp he with rfl | he
                  · exact ⟨Nat.ne_of_gt ly.2.1, Nat.ne_of_gt ly.1⟩
                  · exact hoff e he⟩
              case spNC => exact g1
              case smNC =>
                dsimp only
                unfold mu
                rw [one_zero]; omega
            · refine Stop.o ?_
              rename y0 + 2 * held = 0 => ehz
              rename Fr _ _ _ _ => fD
              rename News _ _ _ _ => nD
              refine' ksw_end ⟨items1, n + 1, tv2, tn + 1, ds ++ [-held], 0, _, key, tl⟩ fD nD ?snND ?sfND ?skND ?srND ?spND ?smND
              case skND =>
                intro p hp
                cases List.mem_singleton.mp hp
                with_unfolding_all rfl
              case srND =>
                intro z h2 h3
                simp only [List.forall_mem_cons, List.not_mem_nil, false_implies, implies_true, and_true, ne_eq] at h2
                simp only [List.contains_cons, List.contains_nil, Bool.or_false, Bool.or_eq_false_iff, beq_eq_false_iff_ne, ne_eq] at h3
                simp [h2, h3, kstB]
              case snND =>
                intro p hp
                simp only [List.mem_cons] at hp ⊢
                rcases hp with h | h | h <;> simp [h]
              case sfND => exact ⟨hp1, hds2, hoff⟩
              case spND => exact good_twice0 hPop ha e2' (by dsimp only; rw [hk0]; exact ehz)
              case smND =>
                dsimp only
                unfold mu
                rw [one_zero]; omega
          · refine Stop.o ?_
            have ha := popped_alone hPop (fun h => absurd h hne)
            rename 2 * _ ≠ x0 => e2
            rename held ≠ 0 => hh0
            have e2' : 2 * (held.natAbs : Int) ≠ (key (.ref a0)).1 := by rw [hk0, ← abs_eq]; exact e2
            rename Fr _ _ _ _ => fB
            rename News _ _ _ _ => nB
            refine append_I hds fB (kst_newsOf (l' := (Tl, listOf tv.toArray tn) :: (H, listOf items1.toArray (n + 1)) :: tl) nB (by intro p hp; simp only [List.mem_cons] at hp ⊢; rcases hp with h | h | h <;> simp [h])) (fun e he => by
              rcases List.mem_cons.mp he with rfl | he
              · exact hHT
              · exact (hoff e he).2) (by omega) fun h5 tv2 hds2 F5 N5 => ?_
            (try k_fold)
            walk_at "MINE go"
            refine Stop.o ?_
            rename Fr _ _ _ _ => fD
            rename News _ _ _ _ => nD
            refine' ksw_end ⟨items1, n + 1, tv2, tn + 1, ds ++ [held], y0, _, key, tl⟩ fD nD ?snNE ?sfNE ?skNE ?srNE ?spNE ?smNE
            case skNE =>
              intro p hp
              cases List.mem_singleton.mp hp
              with_unfolding_all rfl
            case srNE =>
              intro z h2 h3
              simp only [List.forall_mem_cons, List.not_mem_nil, false_implies, implies_true, and_true, ne_eq] at h2
              simp only [List.contains_cons, List.contains_nil, Bool.or_false, Bool.or_eq_false_iff, beq_eq_false_iff_ne, ne_eq] at h3
              simp [h2, h3, kstB]
            case snNE =>
              intro p hp
              simp only [List.mem_cons] at hp ⊢
              rcases hp with h | h | h <;> simp [h]
            case sfNE => exact ⟨hp1, hds2, hoff⟩
            case spNE => exact (by have := good_wait hPop ha e2' hh0; rw [hk0] at this; exact this)
            case smNE =>
              dsimp only
              unfold mu
              have := one_le y0; have := one_le held; omega
          · refine Stop.o ?_
            have ha := popped_alone hPop (fun h => absurd h hne)
            rename held = 0 => hh0
            rename Fr _ _ _ _ => fD
            rename News _ _ _ _ => nD
            refine' ksw_end ⟨items1, n + 1, tv, tn, ds, y0, _, key, tl⟩ fD nD ?snNF ?sfNF ?skNF ?srNF ?spNF ?smNF
            case skNF =>
              intro p hp
              cases List.mem_singleton.mp hp
              with_unfolding_all rfl
            case srNF =>
              intro z h2 h3
              simp only [List.forall_mem_cons, List.not_mem_nil, false_implies, implies_true, and_true, ne_eq] at h2
              simp only [List.contains_cons, List.contains_nil, Bool.or_false, Bool.or_eq_false_iff, beq_eq_false_iff_ne, ne_eq] at h3
              simp [h2, h3, kstB]
            case snNF =>
              intro p hp
              simp only [List.mem_cons] at hp ⊢
              rcases hp with h | h | h <;> simp [h]
            case sfNF => exact ⟨hp1, hds, hoff⟩
            case spNF => exact (by have := good_wait0 hPop ha hh0; rw [hk0] at this; exact this)
            case smNF =>
              dsimp only
              unfold mu
              have := one_le y0; have := one_le held; omega
      · have e0 : items = [] := List.eq_nil_of_length_eq_zero (by omega)
        have hsum0 := hG.sum
        rw [e0] at hsum0
        simp only [vsum, List.map_nil, List.sum_nil] at hsum0
        (try k_fold)
        walk_at "MINE go"
        · refine Stop.o ?_
          rename held ≠ 0 => hh0
          rename Fr _ _ _ _ => fA
          rename News _ _ _ _ => nA
          refine append_I hds fA (kst_newsOf (l' := (Tl, listOf tv.toArray tn) :: (H, listOf items.toArray n) :: tl) nA (by intro p hp; simp only [List.mem_cons] at hp ⊢; rcases hp with h | h | h <;> simp [h])) (fun e he => by
            rcases List.mem_cons.mp he with rfl | he
            · exact hHT
            · exact (hoff e he).2) (by omega) fun h4 tv2 hds2 F4 N4 => ?_
          have hnaf : Naf (ds ++ [held]) := by
            obtain ⟨j, ej⟩ := hG.hpow.resolve_left hh0
            exact hG.naf.snoc ej fun d hd => (hG.far d hd).1 hh0
          have hsum : (ds ++ [held]).sum = total := by rw [sum_snoc]; omega
          (try k_fold)
          walk_at "MINE go"
          refine Stop.o ?_
          rename Fr _ _ _ _ => fB
          rename News _ _ _ _ => nB
          have hW : 3 * total.natAbs < 2 ^ 32 := whole_lt hP.bound
          refine powers_callI (N := 3 * total.natAbs) (by rw [abs_eq]; omega) (by k_asm) fB (by k_asm) (kst_newsOf (l' := [(Tl, listOf tv2.toArray (tn + 1))]) nB (by intro p hp; simp only [List.mem_cons, List.not_mem_nil, or_false] at hp ⊢; simp [hp])) (by k_asm) rfl hW (by decide +kernel) (by decide +kernel) ?_
          intro D5 vs5 c5 h5 tk5 F5 N5 off5 hv5
          (try k_fold)
          walk_at "MINE go"
          · refine Stop.o ?_
            rename 0 ≤ total => hsg
            rename Fr _ _ _ _ => fC
            rename News _ _ _ _ => nC
            refine with_addr nC (fun Du eDu => ?_)
            subst eDu
            rename _ < Du ∧ _ => lU
            refine powers_callI (N := total.natAbs ^^^ (3 * total.natAbs)) (xor_eq total) (by k_asm) fC (by k_asm) nC (by k_asm) rfl (Nat.xor_lt_two_pow (by omega) hW) (by decide +kernel) (by decide +kernel) ?_
            intro D6 vs6 c6 h6 tk6 F6 N6 off6 hv6
            (try k_fold)
            walk_at "MINE go"
            refine Stop.o ?_
            rename Fr _ _ _ _ => fD
            have hdue := due_eq hnaf hsum hW (sg := 1) (.inl ⟨rfl, hsg⟩)
            have hDu : ∀ own, OwnOff own [Du, D6, D5, Tl] → ∀ p ∈ (D6, listOf vs6.toArray c6) :: (D5, listOf vs5.toArray c5) :: (Tl, listOf tv2.toArray (tn + 1)) :: own, p.1 ≠ Du := fun own ho p hp => by
              rcases List.mem_cons.mp hp with rfl | hp
              · exact (off6 _ (.head _)).symm
              · rcases List.mem_cons.mp hp with rfl | hp
                · exact Nat.ne_of_lt lU.1
                · rcases List.mem_cons.mp hp with rfl | hp
                  · exact Nat.ne_of_lt lU.2
                  · exact ho p hp Du (.head _)
            refine' kst_listL (σ := List Value × Nat) (l := D6) (vs := vs6) (nn := c6) (fun c => (Du, listOf c.1.toArray c.2) :: (D6, listOf vs6.toArray c6) :: (D5, listOf vs5.toArray c5) :: (Tl, listOf tv2.toArray (tn + 1)) :: []) (fun _ => []) (fun _ => True) [Str.ofString "half"]
              (fun pre c => IntsAre c.1 (pre.map (dueOf total (1)))) ([], 0) rfl (fun _ => .tail _ (.head _)) hv6 fD (kst_newsOf N6 (by intro p hp; simp only [List.mem_cons, List.not_mem_nil, or_false] at hp ⊢; rcases hp with h | h | h | h <;> simp [h])) trivial (fun _ h => nomatch h) .nil ?xtu1 ?xdu1
            case xtu1 =>
              rintro ⟨dv, dn⟩ pre post pw tpw u3 h tk own hns hin hown _ hdv F7 N7
              dsimp only [List.cons_append, List.nil_append] at F7 N7 hdv
              (try k_fold)
              walk_at "MINE go"
              · refine Stop.o ?_
                rename List.any _ _ = true => hany
                rename Fr _ _ _ _ => fE
                rename News _ _ _ _ => nE
                refine append_I hdv fE nE (hDu own hown) (by rw [List.length_map]; have := bits_split hns; omega) fun h8 dv2 hdv2 F8 N8 => ?_
                (try k_fold)
                walk_at "MINE go"
                refine Stop.o ?_
                rename Fr _ _ _ _ => fF
                rename News _ _ _ _ => nF
                refine' kst_end (dv2, dn + 1) fF nF ?znu1p ?zou1p ?zau1p trivial ?zku1p ?zru1p ?zpu1p
                case znu1p => intro p hp; simp only [List.mem_cons, List.not_mem_nil, or_false] at hp ⊢; rcases hp with h | h | h | h <;> simp [h]
                case zou1p => exact fun p hp => .tail _ (.tail _ (.tail _ (.tail _ hp)))
                case zau1p => rfl
                case zku1p => exact fun _ h => nomatch h
                case zru1p =>
                  intro z h1 h2 h3
                  simp only [List.contains_cons, List.contains_nil, Bool.or_false, Bool.or_eq_false_iff, beq_eq_false_iff_ne, ne_eq] at h3
                  simp [h1, h3, kstB]
                case zpu1p =>
                  show IntsAre dv2 (List.map (dueOf total (1)) (pre ++ [pw]))
                  rw [List.map_append, List.map_singleton, dueOf_pos hany]
                  exact hdv2
              · refine Stop.o ?_
                rename List.any _ _ = false => hany
                rename Fr _ _ _ _ => fE
                rename News _ _ _ _ => nE
                refine append_I hdv fE nE (hDu own hown) (by rw [List.length_map]; have := bits_split hns; omega) fun h8 dv2 hdv2 F8 N8 => ?_
                (try k_fold)
                walk_at "MINE go"
                refine Stop.o ?_
                rename Fr _ _ _ _ => fF
                rename News _ _ _ _ => nF
                refine' kst_end (dv2, dn + 1) fF nF ?znu1n ?zou1n ?zau1n trivial ?zku1n ?zru1n ?zpu1n
                case znu1n => intro p hp; simp only [List.mem_cons, List.not_mem_nil, or_false] at hp ⊢; rcases hp with h | h | h | h <;> simp [h]
                case zou1n => exact fun p hp => .tail _ (.tail _ (.tail _ (.tail _ hp)))
                case zau1n => rfl
                case zku1n => exact fun _ h => nomatch h
                case zru1n =>
                  intro z h1 h2 h3
                  simp only [List.contains_cons, List.contains_nil, Bool.or_false, Bool.or_eq_false_iff, beq_eq_false_iff_ne, ne_eq] at h3
                  simp [h1, h3, kstB]
                case zpu1n =>
                  show IntsAre dv2 (List.map (dueOf total (1)) (pre ++ [pw]))
                  rw [List.map_append, List.map_singleton, dueOf_neg hany]
                  exact hdv2
            case xdu1 =>
              rintro ⟨dv, dn⟩ u3 h tk _ hdv F7 N7
              dsimp only at F7 N7 hdv
              (try k_fold)
              walk_at "MINE go"
              all_goals (rename ¬ _ = _ => hbad; exact absurd hdue.symm hbad)
          · refine Stop.o ?_
            rename ¬ 0 ≤ total => hsg
            rename Fr _ _ _ _ => fC
            rename News _ _ _ _ => nC
            refine with_addr nC (fun Du eDu => ?_)
            subst eDu
            rename _ < Du ∧ _ => lU
            refine powers_callI (N := total.natAbs ^^^ (3 * total.natAbs)) (xor_eq total) (by k_asm) fC (by k_asm) nC (by k_asm) rfl (Nat.xor_lt_two_pow (by omega) hW) (by decide +kernel) (by decide +kernel) ?_
            intro D6 vs6 c6 h6 tk6 F6 N6 off6 hv6
            (try k_fold)
            walk_at "MINE go"
            refine Stop.o ?_
            rename Fr _ _ _ _ => fD
            have hdue := due_eq hnaf hsum hW (sg := -1) (.inr ⟨rfl, by omega⟩)
            have hDu : ∀ own, OwnOff own [Du, D6, D5, Tl] → ∀ p ∈ (D6, listOf vs6.toArray c6) :: (D5, listOf vs5.toArray c5) :: (Tl, listOf tv2.toArray (tn + 1)) :: own, p.1 ≠ Du := fun own ho p hp => by
              rcases List.mem_cons.mp hp with rfl | hp
              · exact (off6 _ (.head _)).symm
              · rcases List.mem_cons.mp hp with rfl | hp
                · exact Nat.ne_of_lt lU.1
                · rcases List.mem_cons.mp hp with rfl | hp
                  · exact Nat.ne_of_lt lU.2
                  · exact ho p hp Du (.head _)
            refine' kst_listL (σ := List Value × Nat) (l := D6) (vs := vs6) (nn := c6) (fun c => (Du, listOf c.1.toArray c.2) :: (D6, listOf vs6.toArray c6) :: (D5, listOf vs5.toArray c5) :: (Tl, listOf tv2.toArray (tn + 1)) :: []) (fun _ => []) (fun _ => True) [Str.ofString "half"]
              (fun pre c => IntsAre c.1 (pre.map (dueOf total (-1)))) ([], 0) rfl (fun _ => .tail _ (.head _)) hv6 fD (kst_newsOf N6 (by intro p hp; simp only [List.mem_cons, List.not_mem_nil, or_false] at hp ⊢; rcases hp with h | h | h | h <;> simp [h])) trivial (fun _ h => nomatch h) .nil ?xtu2 ?xdu2
            case xtu2 =>
              rintro ⟨dv, dn⟩ pre post pw tpw u3 h tk own hns hin hown _ hdv F7 N7
              dsimp only [List.cons_append, List.nil_append] at F7 N7 hdv
              (try k_fold)
              walk_at "MINE go"
              · refine Stop.o ?_
                rename List.any _ _ = true => hany
                rename Fr _ _ _ _ => fE
                rename News _ _ _ _ => nE
                refine append_I hdv fE nE (hDu own hown) (by rw [List.length_map]; have := bits_split hns; omega) fun h8 dv2 hdv2 F8 N8 => ?_
                (try k_fold)
                walk_at "MINE go"
                refine Stop.o ?_
                rename Fr _ _ _ _ => fF
                rename News _ _ _ _ => nF
                refine' kst_end (dv2, dn + 1) fF nF ?znu2p ?zou2p ?zau2p trivial ?zku2p ?zru2p ?zpu2p
                case znu2p => intro p hp; simp only [List.mem_cons, List.not_mem_nil, or_false] at hp ⊢; rcases hp with h | h | h | h <;> simp [h]
                case zou2p => exact fun p hp => .tail _ (.tail _ (.tail _ (.tail _ hp)))
                case zau2p => rfl
                case zku2p => exact fun _ h => nomatch h
                case zru2p =>
                  intro z h1 h2 h3
                  simp only [List.contains_cons, List.contains_nil, Bool.or_false, Bool.or_eq_false_iff, beq_eq_false_iff_ne, ne_eq] at h3
                  simp [h1, h3, kstB]
                case zpu2p =>
                  show IntsAre dv2 (List.map (dueOf total (-1)) (pre ++ [pw]))
                  rw [List.map_append, List.map_singleton, dueOf_pos hany]
                  exact hdv2
              · refine Stop.o ?_
                rename List.any _ _ = false => hany
                rename Fr _ _ _ _ => fE
                rename News _ _ _ _ => nE
                refine append_I hdv fE nE (hDu own hown) (by rw [List.length_map]; have := bits_split hns; omega) fun h8 dv2 hdv2 F8 N8 => ?_
                (try k_fold)
                walk_at "MINE go"
                refine Stop.o ?_
                rename Fr _ _ _ _ => fF
                rename News _ _ _ _ => nF
                refine' kst_end (dv2, dn + 1) fF nF ?znu2n ?zou2n ?zau2n trivial ?zku2n ?zru2n ?zpu2n
                case znu2n => intro p hp; simp only [List.mem_cons, List.not_mem_nil, or_false] at hp ⊢; rcases hp with h | h | h | h <;> simp [h]
                case zou2n => exact fun p hp => .tail _ (.tail _ (.tail _ (.tail _ hp)))
                case zau2n => rfl
                case zku2n => exact fun _ h => nomatch h
                case zru2n =>
                  intro z h1 h2 h3
                  simp only [List.contains_cons, List.contains_nil, Bool.or_false, Bool.or_eq_false_iff, beq_eq_false_iff_ne, ne_eq] at h3
                  simp [h1, h3, kstB]
                case zpu2n =>
                  show IntsAre dv2 (List.map (dueOf total (-1)) (pre ++ [pw]))
                  rw [List.map_append, List.map_singleton, dueOf_neg hany]
                  exact hdv2
            case xdu2 =>
              rintro ⟨dv, dn⟩ u3 h tk _ hdv F7 N7
              dsimp only at F7 N7 hdv
              (try k_fold)
              walk_at "MINE go"
              all_goals (rename ¬ _ = _ => hbad; exact absurd hdue.symm hbad)
        · refine Stop.o ?_
          rename held = 0 => hh0
          rename Fr _ _ _ _ => fB
          rename News _ _ _ _ => nB
          have hnaf := hG.naf
          have hsum : ds.sum = total := by omega
          have hW : 3 * total.natAbs < 2 ^ 32 := whole_lt hP.bound
          refine powers_callI (N := 3 * total.natAbs) (by rw [abs_eq]; omega) (by k_asm) fB (by k_asm) (kst_newsOf (l' := [(Tl, listOf tv.toArray (tn))]) nB (by intro p hp; simp only [List.mem_cons, List.not_mem_nil, or_false] at hp ⊢; simp [hp])) (by k_asm) rfl hW (by decide +kernel) (by decide +kernel) ?_
          intro D5 vs5 c5 h5 tk5 F5 N5 off5 hv5
          (try k_fold)
          walk_at "MINE go"
          · refine Stop.o ?_
            rename 0 ≤ total => hsg
            rename Fr _ _ _ _ => fC
            rename News _ _ _ _ => nC
            refine with_addr nC (fun Du eDu => ?_)
            subst eDu
            rename _ < Du ∧ _ => lU
            refine powers_callI (N := total.natAbs ^^^ (3 * total.natAbs)) (xor_eq total) (by k_asm) fC (by k_asm) nC (by k_asm) rfl (Nat.xor_lt_two_pow (by omega) hW) (by decide +kernel) (by decide +kernel) ?_
            intro D6 vs6 c6 h6 tk6 F6 N6 off6 hv6
            (try k_fold)
            walk_at "MINE go"
            refine Stop.o ?_
            rename Fr _ _ _ _ => fD
            have hdue := due_eq hnaf hsum hW (sg := 1) (.inl ⟨rfl, hsg⟩)
            have hDu : ∀ own, OwnOff own [Du, D6, D5, Tl] → ∀ p ∈ (D6, listOf vs6.toArray c6) :: (D5, listOf vs5.toArray c5) :: (Tl, listOf tv.toArray (tn)) :: own, p.1 ≠ Du := fun own ho p hp => by
              rcases List.mem_cons.mp hp with rfl | hp
              · exact (off6 _ (.head _)).symm
              · rcases List.mem_cons.mp hp with rfl | hp
                · exact Nat.ne_of_lt lU.1
                · rcases List.mem_cons.mp hp with rfl | hp
                  · exact Nat.ne_of_lt lU.2
                  · exact ho p hp Du (.head _)
            refine' kst_listL (σ := List Value × Nat) (l := D6) (vs := vs6) (nn := c6) (fun c => (Du, listOf c.1.toArray c.2) :: (D6, listOf vs6.toArray c6) :: (D5, listOf vs5.toArray c5) :: (Tl, listOf tv.toArray (tn)) :: []) (fun _ => []) (fun _ => True) [Str.ofString "half"]
              (fun pre c => IntsAre c.1 (pre.map (dueOf total (1)))) ([], 0) rfl (fun _ => .tail _ (.head _)) hv6 fD (kst_newsOf N6 (by intro p hp; simp only [List.mem_cons, List.not_mem_nil, or_false] at hp ⊢; rcases hp with h | h | h | h <;> simp [h])) trivial (fun _ h => nomatch h) .nil ?xtv1 ?xdv1
            case xtv1 =>
              rintro ⟨dv, dn⟩ pre post pw tpw u3 h tk own hns hin hown _ hdv F7 N7
              dsimp only [List.cons_append, List.nil_append] at F7 N7 hdv
              (try k_fold)
              walk_at "MINE go"
              · refine Stop.o ?_
                rename List.any _ _ = true => hany
                rename Fr _ _ _ _ => fE
                rename News _ _ _ _ => nE
                refine append_I hdv fE nE (hDu own hown) (by rw [List.length_map]; have := bits_split hns; omega) fun h8 dv2 hdv2 F8 N8 => ?_
                (try k_fold)
                walk_at "MINE go"
                refine Stop.o ?_
                rename Fr _ _ _ _ => fF
                rename News _ _ _ _ => nF
                refine' kst_end (dv2, dn + 1) fF nF ?znv1p ?zov1p ?zav1p trivial ?zkv1p ?zrv1p ?zpv1p
                case znv1p => intro p hp; simp only [List.mem_cons, List.not_mem_nil, or_false] at hp ⊢; rcases hp with h | h | h | h <;> simp [h]
                case zov1p => exact fun p hp => .tail _ (.tail _ (.tail _ (.tail _ hp)))
                case zav1p => rfl
                case zkv1p => exact fun _ h => nomatch h
                case zrv1p =>
                  intro z h1 h2 h3
                  simp only [List.contains_cons, List.contains_nil, Bool.or_false, Bool.or_eq_false_iff, beq_eq_false_iff_ne, ne_eq] at h3
                  simp [h1, h3, kstB]
                case zpv1p =>
                  show IntsAre dv2 (List.map (dueOf total (1)) (pre ++ [pw]))
                  rw [List.map_append, List.map_singleton, dueOf_pos hany]
                  exact hdv2
              · refine Stop.o ?_
                rename List.any _ _ = false => hany
                rename Fr _ _ _ _ => fE
                rename News _ _ _ _ => nE
                refine append_I hdv fE nE (hDu own hown) (by rw [List.length_map]; have := bits_split hns; omega) fun h8 dv2 hdv2 F8 N8 => ?_
                (try k_fold)
                walk_at "MINE go"
                refine Stop.o ?_
                rename Fr _ _ _ _ => fF
                rename News _ _ _ _ => nF
                refine' kst_end (dv2, dn + 1) fF nF ?znv1n ?zov1n ?zav1n trivial ?zkv1n ?zrv1n ?zpv1n
                case znv1n => intro p hp; simp only [List.mem_cons, List.not_mem_nil, or_false] at hp ⊢; rcases hp with h | h | h | h <;> simp [h]
                case zov1n => exact fun p hp => .tail _ (.tail _ (.tail _ (.tail _ hp)))
                case zav1n => rfl
                case zkv1n => exact fun _ h => nomatch h
                case zrv1n =>
                  intro z h1 h2 h3
                  simp only [List.contains_cons, List.contains_nil, Bool.or_false, Bool.or_eq_false_iff, beq_eq_false_iff_ne, ne_eq] at h3
                  simp [h1, h3, kstB]
                case zpv1n =>
                  show IntsAre dv2 (List.map (dueOf total (1)) (pre ++ [pw]))
                  rw [List.map_append, List.map_singleton, dueOf_neg hany]
                  exact hdv2
            case xdv1 =>
              rintro ⟨dv, dn⟩ u3 h tk _ hdv F7 N7
              dsimp only at F7 N7 hdv
              (try k_fold)
              walk_at "MINE go"
              all_goals (rename ¬ _ = _ => hbad; exact absurd hdue.symm hbad)
          · refine Stop.o ?_
            rename ¬ 0 ≤ total => hsg
            rename Fr _ _ _ _ => fC
            rename News _ _ _ _ => nC
            refine with_addr nC (fun Du eDu => ?_)
            subst eDu
            rename _ < Du ∧ _ => lU
            refine powers_callI (N := total.natAbs ^^^ (3 * total.natAbs)) (xor_eq total) (by k_asm) fC (by k_asm) nC (by k_asm) rfl (Nat.xor_lt_two_pow (by omega) hW) (by decide +kernel) (by decide +kernel) ?_
            intro D6 vs6 c6 h6 tk6 F6 N6 off6 hv6
            (try k_fold)
            walk_at "MINE go"
            refine Stop.o ?_
            rename Fr _ _ _ _ => fD
            have hdue := due_eq hnaf hsum hW (sg := -1) (.inr ⟨rfl, by omega⟩)
            have hDu : ∀ own, OwnOff own [Du, D6, D5, Tl] → ∀ p ∈ (D6, listOf vs6.toArray c6) :: (D5, listOf vs5.toArray c5) :: (Tl, listOf tv.toArray (tn)) :: own, p.1 ≠ Du := fun own ho p hp => by
              rcases List.mem_cons.mp hp with rfl | hp
              · exact (off6 _ (.head _)).symm
              · rcases List.mem_cons.mp hp with rfl | hp
                · exact Nat.ne_of_lt lU.1
                · rcases List.mem_cons.mp hp with rfl | hp
                  · exact Nat.ne_of_lt lU.2
                  · exact ho p hp Du (.head _)
            refine' kst_listL (σ := List Value × Nat) (l := D6) (vs := vs6) (nn := c6) (fun c => (Du, listOf c.1.toArray c.2) :: (D6, listOf vs6.toArray c6) :: (D5, listOf vs5.toArray c5) :: (Tl, listOf tv.toArray (tn)) :: []) (fun _ => []) (fun _ => True) [Str.ofString "half"]
              (fun pre c => IntsAre c.1 (pre.map (dueOf total (-1)))) ([], 0) rfl (fun _ => .tail _ (.head _)) hv6 fD (kst_newsOf N6 (by intro p hp; simp only [List.mem_cons, List.not_mem_nil, or_false] at hp ⊢; rcases hp with h | h | h | h <;> simp [h])) trivial (fun _ h => nomatch h) .nil ?xtv2 ?xdv2
            case xtv2 =>
              rintro ⟨dv, dn⟩ pre post pw tpw u3 h tk own hns hin hown _ hdv F7 N7
              dsimp only [List.cons_append, List.nil_append] at F7 N7 hdv
              (try k_fold)
              walk_at "MINE go"
              · refine Stop.o ?_
                rename List.any _ _ = true => hany
                rename Fr _ _ _ _ => fE
                rename News _ _ _ _ => nE
                refine append_I hdv fE nE (hDu own hown) (by rw [List.length_map]; have := bits_split hns; omega) fun h8 dv2 hdv2 F8 N8 => ?_
                (try k_fold)
                walk_at "MINE go"
                refine Stop.o ?_
                rename Fr _ _ _ _ => fF
                rename News _ _ _ _ => nF
                refine' kst_end (dv2, dn + 1) fF nF ?znv2p ?zov2p ?zav2p trivial ?zkv2p ?zrv2p ?zpv2p
                case znv2p => intro p hp; simp only [List.mem_cons, List.not_mem_nil, or_false] at hp ⊢; rcases hp with h | h | h | h <;> simp [h]
                case zov2p => exact fun p hp => .tail _ (.tail _ (.tail _ (.tail _ hp)))
                case zav2p => rfl
                case zkv2p => exact fun _ h => nomatch h
                case zrv2p =>
                  intro z h1 h2 h3
                  simp only [List.contains_cons, List.contains_nil, Bool.or_false, Bool.or_eq_false_iff, beq_eq_false_iff_ne, ne_eq] at h3
                  simp [h1, h3, kstB]
                case zpv2p =>
                  show IntsAre dv2 (List.map (dueOf total (-1)) (pre ++ [pw]))
                  rw [List.map_append, List.map_singleton, dueOf_pos hany]
                  exact hdv2
              · refine Stop.o ?_
                rename List.any _ _ = false => hany
                rename Fr _ _ _ _ => fE
                rename News _ _ _ _ => nE
                refine append_I hdv fE nE (hDu own hown) (by rw [List.length_map]; have := bits_split hns; omega) fun h8 dv2 hdv2 F8 N8 => ?_
                (try k_fold)
                walk_at "MINE go"
                refine Stop.o ?_
                rename Fr _ _ _ _ => fF
                rename News _ _ _ _ => nF
                refine' kst_end (dv2, dn + 1) fF nF ?znv2n ?zov2n ?zav2n trivial ?zkv2n ?zrv2n ?zpv2n
                case znv2n => intro p hp; simp only [List.mem_cons, List.not_mem_nil, or_false] at hp ⊢; rcases hp with h | h | h | h <;> simp [h]
                case zov2n => exact fun p hp => .tail _ (.tail _ (.tail _ (.tail _ hp)))
                case zav2n => rfl
                case zkv2n => exact fun _ h => nomatch h
                case zrv2n =>
                  intro z h1 h2 h3
                  simp only [List.contains_cons, List.contains_nil, Bool.or_false, Bool.or_eq_false_iff, beq_eq_false_iff_ne, ne_eq] at h3
                  simp [h1, h3, kstB]
                case zpv2n =>
                  show IntsAre dv2 (List.map (dueOf total (-1)) (pre ++ [pw]))
                  rw [List.map_append, List.map_singleton, dueOf_neg hany]
                  exact hdv2
            case xdv2 =>
              rintro ⟨dv, dn⟩ u3 h tk _ hdv F7 N7
              dsimp only at F7 N7 hdv
              (try k_fold)
              walk_at "MINE go"
              all_goals (rename ¬ _ = _ => hbad; exact absurd hdue.symm hbad))
end
end Mine
end
theorem PySem.Challenge.cw_pm0017_01_holds : PySem.Challenge.rw_pm0017_01.Holds := by
  exact Mine.law_holds
