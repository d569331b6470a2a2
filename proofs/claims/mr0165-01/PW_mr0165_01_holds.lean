import PyProof.Rows.All
import Wide.All
import OpenK.AllK
import Wide.FinOn
import PySem.Challenge.RW_mr0165_01
open PySem PySem.W PyProof.Rows
set_option Elab.async false
set_option maxRecDepth 100000
set_option maxHeartbeats 8000000
set_option linter.unusedVariables false
set_option linter.unusedSimpArgs false
namespace Mine
open_top hd for PySem.Challenge.rw_mr0165_01
theorem quiet : True := by
  w_top off
  trivial
end Mine
section
open PySem
namespace Mine
/-- the pure images of the program's functions, for an order lt -/
def sdLoop (lt : Str → Str → Bool) (new : Str) (start : Nat) (h : List Str) (pos : Nat) : List Str :=
  if start < pos then
    if lt new (h.getD ((pos - 1) / 2) Str.empty) = true then sdLoop lt new start (h.set pos (h.getD ((pos - 1) / 2) Str.empty)) ((pos - 1) / 2)
    else h.set pos new
  else h.set pos new
termination_by pos
decreasing_by omega
def siftdown (lt : Str → Str → Bool) (h : List Str) (start pos : Nat) : List Str := sdLoop lt (h.getD pos Str.empty) start h pos
def pick (lt : Str → Str → Bool) (h : List Str) (child : Nat) : Nat :=
  if child + 1 < h.length ∧ lt (h.getD child Str.empty) (h.getD (child + 1) Str.empty) = false then child + 1 else child
theorem pick_ge (lt : Str → Str → Bool) (h : List Str) (child : Nat) : child ≤ pick lt h child := by
  unfold pick; split <;> omega
def suLoop (lt : Str → Str → Bool) (h : List Str) (pos child : Nat) : List Str × Nat :=
  if child < h.length then
    suLoop lt (h.set pos (h.getD (pick lt h child) Str.empty)) (pick lt h child) (2 * pick lt h child + 1)
  else (h, pos)
termination_by h.length - child
decreasing_by
  have := pick_ge lt h child
  rw [List.length_set]; omega
def siftup (lt : Str → Str → Bool) (h : List Str) (pos : Nat) : List Str :=
  siftdown lt ((suLoop lt h pos (2 * pos + 1)).1.set (suLoop lt h pos (2 * pos + 1)).2 (h.getD pos Str.empty)) pos (suLoop lt h pos (2 * pos + 1)).2
def hfy (lt : Str → Str → Bool) : Nat → List Str → List Str
  | 0, h => h
  | k + 1, h => hfy lt k (siftup lt h k)
def heapify (lt : Str → Str → Bool) (h : List Str) : List Str := hfy lt (h.length / 2) h
def popTop (h : List Str) : Str := if h.length ≤ 1 then h.getD (h.length - 1) Str.empty else h.getD 0 Str.empty
def popRest (lt : Str → Str → Bool) (h : List Str) : List Str :=
  if h.length ≤ 1 then h.dropLast else siftup lt (h.dropLast.set 0 (h.getD (h.length - 1) Str.empty)) 0
def popAll (lt : Str → Str → Bool) : Nat → List Str → List Str
  | 0, _ => []
  | k + 1, h => popTop h :: popAll lt k (popRest lt h)
end Mine
end
section
open PySem PySem.W PyProof.Rows
namespace Mine
def slt (x y : Str) : Bool := decide (x.cps.toList < y.cps.toList)
def sgt (x y : Str) : Bool := slt y x
noncomputable abbrev LO : List Str := looseW hd.view_39 [Str.ofString "capwords"]
theorem strs_set {x : Str} {u : Tok} : ∀ {vs : List Value} {ns : List Str}, StrsAre vs ns → ∀ j : Nat, StrsAre (vs.set j (.str x u)) (ns.set j x)
  | _, _, .nil, _ => .nil
  | _, _, .cons _ _ h, 0 => .cons x u h
  | _, _, .cons i t h, j + 1 => .cons i t (strs_set h j)
theorem sset {prog : Program} {w : World} {A : Around} {E : Value → Shared → Prop} {s : Shared} {h₀ : Heap} {L D : Addr} {m : Str → Option Value} {news news' : List (Addr × Obj)} {vs : List Value} {ns : List Str} {n : Nat} {k : Int} {x : Str} {t u : Tok}
    {Q : Unit → Shared → Prop} (F : Fr h₀ L s.heap m) (N : News h₀ L s.heap news) (U : Upd D (listOf vs.toArray n) (listOf (vs.set k.toNat (.str x u)).toArray n) news news') (hi : StrsAre vs ns) (h0 : 0 ≤ k) (h1 : k < ns.length) (hfit : k < 2 ^ 63)
    (h : ∀ h', Fr h₀ L h' m → News h₀ L h' news' → StrsAre (vs.set k.toNat (.str x u)) (ns.set k.toNat x) → (ns.set k.toNat x).length = ns.length → Q () { s with heap := h' }) :
    wpAny (model prog w) A (setItem (.ref D) (.int k t) (.str x u)) Q E s := by
  obtain ⟨pre, post, rfl, rfl, a, b⟩ := U.split
  have z := N (D, listOf vs.toArray n) (List.mem_append.mpr (.inr (.head _)))
  have hl : vs.length = ns.length := hi.length
  have hs : vs.toArray.size = ns.length := by rw [List.size_toArray]; exact hl
  have hj : k.toNat < ns.length := by omega
  refine ki_setAt z.1 h0 hfit (by omega) (h _ (F.change (Heap.SameBut.update ..) z.2.1 z.2.2) (ki_turn _ N a b ?_ ?_) (strs_set hi _) (List.length_set ..))
  · show vs.toArray.setIfInBounds k.toNat (.str x u) = (vs.set k.toNat (.str x u)).toArray
    apply Array.toList_inj.mp
    simp
  · simp
theorem strs_last {us : List Value} {l : List Str} (hi : StrsAre us l) : 0 < us.length → ∃ t, us = us.dropLast ++ [.str (l.getD (l.length - 1) Str.empty) t] ∧ StrsAre us.dropLast l.dropLast := by
  induction hi with
  | nil => intro h; exact absurd h (Nat.lt_irrefl 0)
  | cons k t r ih =>
    intro _
    cases r with
    | nil => exact ⟨t, rfl, .nil⟩
    | cons k' t' r' =>
      obtain ⟨u, h1, h2⟩ := ih (Nat.succ_pos _)
      exact ⟨u, congrArg (List.cons (Value.str k t)) h1, .cons k t h2⟩
theorem spop {prog : Program} {w : World} {A : Around} {E : Value → Shared → Prop} {s : Shared} {h₀ : Heap} {L D : Addr} {m : Str → Option Value} {news news' : List (Addr × Obj)} {n : Nat} {us : List Value} {l : List Str} {Q : Value → Shared → Prop}
    (F : Fr h₀ L s.heap m) (N : News h₀ L s.heap news) (U : Upd D (listOf us.toArray n) (listOf us.dropLast.toArray (n + 1)) news news') (hi : StrsAre us l) (hne : 0 < l.length)
    (hz : l.length ≤ 1000) (h : ∀ h' t, Fr h₀ L h' m → News h₀ L h' news' → StrsAre us.dropLast l.dropLast → Q (.str (l.getD (l.length - 1) Str.empty) t) { s with heap := h' }) : wpAny (model prog w) A (call (.builtin "list.pop") [.ref D]) Q E s := by
  have hl : us.length = l.length := hi.length
  obtain ⟨t, h1, h3⟩ := strs_last hi (by omega)
  refine kl_pop F N (p := us.dropLast) (y := .str (l.getD (l.length - 1) Str.empty) t) ?_ U ?_ fun h' F' N' => h h' t F' N' h3
  · have e := kpa_last (.str (l.getD (l.length - 1) Str.empty) t) us.dropLast
    rw [← h1] at e
    simpa using e
  · rw [PySem.sizeLine_eq]; simp only [List.toList_toArray]; omega
theorem struthy {prog : Program} {w : World} {A : Around} {E : Value → Shared → Prop} {s : Shared} {h₀ : Heap} {L D : Addr} {news : List (Addr × Obj)} {n : Nat} {us : List Value} {l : List Str} {Q : Bool → Shared → Prop}
    (N : News h₀ L s.heap news) (hm : (D, listOf us.toArray n) ∈ news) (hi : StrsAre us l) (hz : l.length ≤ 1000) (h : Q (decide (0 < l.length)) { s with toks := s.toks + 1 + 1 }) : wpAny (model prog w) A (truthy (.ref D)) Q E s := by
  have hl : us.length = l.length := hi.length
  refine wpAny_truthy_list (PySem.IsL.isList (n := n) (N _ hm).1) (by rw [List.size_toArray]; omega) ?_
  have e : (!us.toArray.isEmpty) = decide (0 < l.length) := by
    cases hi with
    | nil => rfl
    | cons _ _ _ => simp
  rw [e]; exact h
theorem shr1 {prog : Program} {w : World} {A : Around} {E : Value → Shared → Prop} {s : Shared} {k : Nat} {t u : Tok} {Q : Value → Shared → Prop} (hk : 0 < k) (h : Q (.int (((k - 1) / 2 : Nat) : Int) s.toks) { s with toks := s.toks + 1 }) :
    wpAny (model prog w) A (binaryOp .RShift (.int ((k : Int) - 1) t) (.int 1 u)) Q E s := by
  refine rshift_int (by decide) ?_
  have e : ((k : Int) - 1).fdiv (2 ^ (1 : Int).toNat) = (((k - 1) / 2 : Nat) : Int) := by
    rw [show (2 : Int) ^ (1 : Int).toNat = 2 from rfl, Int.fdiv_eq_ediv_of_nonneg _ (by decide)]
    omega
  rw [e]; exact h
theorem sdLoop_go {lt : Str → Str → Bool} {new : Str} {start pos : Nat} {h : List Str} (h1 : start < pos) (h2 : lt new (h.getD ((pos - 1) / 2) Str.empty) = true) :
    sdLoop lt new start h pos = sdLoop lt new start (h.set pos (h.getD ((pos - 1) / 2) Str.empty)) ((pos - 1) / 2) := by
  rw [sdLoop, if_pos h1, if_pos h2]
theorem sdLoop_stop {lt : Str → Str → Bool} {new : Str} {start pos : Nat} {h : List Str} (h2 : lt new (h.getD ((pos - 1) / 2) Str.empty) = false) :
    sdLoop lt new start h pos = h.set pos new := by
  rw [sdLoop]; split
  · rw [if_neg (by rw [h2]; decide)]
  · rfl
theorem suLoop_step {lt : Str → Str → Bool} {h : List Str} {p c : Nat} (h1 : 2 * p + 1 < h.length) (hc : pick lt h (2 * p + 1) = c) :
    suLoop lt h p (2 * p + 1) = suLoop lt (h.set p (h.getD c Str.empty)) c (2 * c + 1) := by
  rw [suLoop, if_pos h1, hc]
theorem suLoop_end {lt : Str → Str → Bool} {h : List Str} {pos child : Nat} (h1 : ¬ child < h.length) : suLoop lt h pos child = (h, pos) := by
  rw [suLoop, if_neg h1]
theorem pick_l {lt : Str → Str → Bool} {h : List Str} {c : Nat} (x : (¬ c + 1 < h.length) ∨ lt (h.getD c Str.empty) (h.getD (c + 1) Str.empty) = true) : pick lt h c = c := by
  unfold pick; rw [if_neg]; rintro ⟨a, b⟩
  rcases x with x | x
  · exact x a
  · rw [x] at b; cases b
theorem pick_r {lt : Str → Str → Bool} {h : List Str} {c : Nat} (x : c + 1 < h.length) (y : lt (h.getD c Str.empty) (h.getD (c + 1) Str.empty) = false) : pick lt h c = c + 1 := by
  unfold pick; rw [if_pos ⟨x, y⟩]
theorem popTop_more {xs : List Str} (h : 0 < xs.dropLast.length) : popTop xs = xs.dropLast.getD 0 Str.empty := by
  have h' := h
  rw [List.length_dropLast] at h'
  unfold popTop
  rw [if_neg (by omega)]
  match xs, h with
  | a :: b :: r, _ => rfl
theorem popRest_more {lt : Str → Str → Bool} {xs : List Str} (h : 0 < xs.dropLast.length) : popRest lt xs = siftup lt (xs.dropLast.set 0 (xs.getD (xs.length - 1) Str.empty)) 0 := by
  rw [List.length_dropLast] at h
  unfold popRest
  rw [if_neg (by omega)]
theorem popTop_one {xs : List Str} (h : ¬ 0 < xs.dropLast.length) : popTop xs = xs.getD (xs.length - 1) Str.empty := by
  rw [List.length_dropLast] at h
  unfold popTop
  rw [if_pos (by omega)]
theorem popRest_one {lt : Str → Str → Bool} {xs : List Str} (h : ¬ 0 < xs.dropLast.length) : popRest lt xs = xs.dropLast := by
  rw [List.length_dropLast] at h
  unfold popRest
  rw [if_pos (by omega)]
theorem fdiv2 {prog : Program} {w : World} {A : Around} {E : Value → Shared → Prop} {s : Shared} {k : Nat} {t u : Tok} {Q : Value → Shared → Prop} (h : Q (.int ((k / 2 : Nat) : Int) s.toks) { s with toks := s.toks + 1 }) :
    wpAny (model prog w) A (binaryOp .FloorDiv (.int (k : Int) t) (.int 2 u)) Q E s := by
  refine floordiv_int (by decide) ?_
  have e : (k : Int).fdiv 2 = ((k / 2 : Nat) : Int) := by
    rw [Int.fdiv_eq_ediv_of_nonneg _ (by decide)]; omega
  rw [e]; exact h
theorem sdLoop_length (lt : Str → Str → Bool) (new : Str) (start : Nat) : ∀ (pos : Nat) (h : List Str), (sdLoop lt new start h pos).length = h.length := by
  intro pos
  induction pos using Nat.strongRecOn with
  | _ pos ih =>
    intro h
    rw [sdLoop]
    split
    · split
      · rw [ih _ (by omega), List.length_set]
      · rw [List.length_set]
    · rw [List.length_set]
theorem suLoop_length (lt : Str → Str → Bool) : ∀ (k : Nat) (h : List Str) (pos child : Nat), h.length - child = k → (suLoop lt h pos child).1.length = h.length := by
  intro k
  induction k using Nat.strongRecOn with
  | _ k ih =>
    intro h pos child hk
    rw [suLoop]
    split
    · have := pick_ge lt h child
      rw [ih (h.length - (2 * pick lt h child + 1)) (by omega) _ _ _ (by rw [List.length_set]), List.length_set]
    · rfl
theorem siftup_length (lt : Str → Str → Bool) (h : List Str) (pos : Nat) : (siftup lt h pos).length = h.length := by
  unfold siftup siftdown
  rw [sdLoop_length, List.length_set, suLoop_length lt _ _ _ _ rfl]
theorem hfy_length (lt : Str → Str → Bool) : ∀ (k : Nat) (h : List Str), (hfy lt k h).length = h.length
  | 0, _ => rfl
  | k + 1, h => by rw [hfy, hfy_length lt k, siftup_length]
theorem heapify_length (lt : Str → Str → Bool) (h : List Str) : (heapify lt h).length = h.length := hfy_length lt _ h
theorem popRest_length (lt : Str → Str → Bool) (h : List Str) : (popRest lt h).length = h.length - 1 := by
  unfold popRest
  split
  · exact List.length_dropLast
  · rw [siftup_length, List.length_set, List.length_dropLast]
theorem popAll_length (lt : Str → Str → Bool) : ∀ (n : Nat) (h : List Str), (popAll lt n h).length = n
  | 0, _ => rfl
  | n + 1, h => by rw [popAll, List.length_cons, popAll_length lt n]
theorem popAll_succ (lt : Str → Str → Bool) {n i : Nat} (h : List Str) (hi : i < n) : popAll lt (n - i) h = popTop h :: popAll lt (n - (i + 1)) (popRest lt h) := by
  rw [show n - i = (n - (i + 1)) + 1 by omega]; rfl
theorem sdLoop_end {lt : Str → Str → Bool} {new : Str} {start pos : Nat} {h : List Str} (h1 : ¬ start < pos) :
    sdLoop lt new start h pos = h.set pos new := by
  rw [sdLoop, if_neg h1]
end Mine
end
section
open PySem PySem.W PyProof.Rows
namespace Mine
def revSmall (a b c : Int) : Bool := Builtin.Range.rangeFitsLong a && Builtin.Range.rangeFitsLong b && Builtin.Range.rangeFitsLong c && Builtin.Range.rangeFitsLong (-c) && Builtin.Range.rangeFitsLong (a - c) && Builtin.Range.rangeFitsLong (Builtin.Range.rangeSize a b c)
theorem rr_meets (r : Addr) (a b c : Int) (t u v : Tok) (hc0 : ¬ (!(Builtin.Range.rangeFitsLong a && Builtin.Range.rangeFitsLong b && Builtin.Range.rangeFitsLong c && Builtin.Range.rangeFitsLong (-c) && Builtin.Range.rangeFitsLong (a - c) && Builtin.Range.rangeFitsLong (Builtin.Range.rangeSize a b c))) = true) :
    Meets (Builtin.«range.__reversed__» ⟨[.ref r], []⟩) (fun _ R s => s.heap.get? r = some { cls := .type "range", dict := none, data := .fields #[.int a t, .int b u, .int c v], slots := #[] } ∧ R (.ok (.ret (Value.ref s.heap.objs.size))) { s with heap := s.heap.push { cls := Value.type (if (Builtin.Range.rangeFitsLong a && Builtin.Range.rangeFitsLong b && Builtin.Range.rangeFitsLong c && Builtin.Range.rangeFitsLong (-c) && Builtin.Range.rangeFitsLong (a - c) && Builtin.Range.rangeFitsLong (Builtin.Range.rangeSize a b c)) = true then "range_iterator" else "longrange_iterator"), data := Data.fields #[rawInt (a + (Builtin.Range.rangeSize a b c - 1) * c), rawInt (Builtin.Range.rangeSize a b c), rawInt (-c)] }, toks := s.toks }) :=
  .of_wp fun prog w A R s h => by obtain ⟨hp, g, d, tk, os⟩ := s; obtain ⟨hl, h⟩ := h; wp_walk; exact ⟨_, rfl, h⟩
abbrev rgObj (x left step : Int) : Obj := { cls := .type "range_iterator", data := .fields #[rawInt x, rawInt left, rawInt step] }
section
variable {prog : Program} {w : World} {A : Around} {E : Value → Shared → Prop} {s : Shared}
theorem fits_small {k : Int} (h0 : -1 ≤ k) (h1 : k ≤ 2 ^ 30) : Builtin.Range.rangeFitsLong k = true := by
  unfold Builtin.Range.rangeFitsLong
  simp only [Bool.and_eq_true, decide_eq_true_eq]
  omega
theorem size_up (k : Nat) : Builtin.Range.rangeSize 0 (k : Int) 1 = (k : Int) := by rw [rangeSize_one]; split <;> omega
theorem small_up {k : Nat} (hk : k ≤ 2 ^ 20) : Builtin.Range.small 0 (k : Int) 1 = true := by
  unfold Builtin.Range.small
  rw [size_up, fits_small (k := (k : Int)) (by omega) (by omega)]
  have e : (k : Int) + (1 - 1) = k := by omega
  rw [if_pos (by decide), e, fits_small (k := (k : Int)) (by omega) (by omega)]
  simp
  decide
theorem call_range_rev {r : Addr} {k : Nat} {t u v : Tok} {Q : Value → Shared → Prop} (hr : IsRange s.heap r 0 (k : Int) 1 t u v) (hk : k ≤ 2 ^ 20)
    (h : Q (.ref s.heap.objs.size) { s with heap := s.heap.push (rgObj ((k : Int) - 1) (k : Int) (-1)) }) : wpAny (model prog w) A (call (.builtin "range.__reversed__") [.ref r]) Q E s := by
  have hT : s.TypeIs (.ref r) "range" := ⟨_, hr, rfl⟩
  have hs : (Builtin.Range.rangeFitsLong 0 && Builtin.Range.rangeFitsLong (k : Int) && Builtin.Range.rangeFitsLong 1 && Builtin.Range.rangeFitsLong (-1) && Builtin.Range.rangeFitsLong (0 - 1) && Builtin.Range.rangeFitsLong (Builtin.Range.rangeSize 0 (k : Int) 1)) = true := by
    rw [size_up, fits_small (k := (k : Int)) (by omega) (by omega)]
    decide
  refine call_meets F.slot_range_reversed hT F.entry_range_reversed (F.args_range_reversed_1 _) (rr_meets r 0 k 1 t u v (by rw [hs]; decide)) ⟨hr, ?_⟩
  rw [if_pos hs, size_up]
  have e : (0 : Int) + ((k : Int) - 1) * 1 = (k : Int) - 1 := by omega
  rw [e]
  exact h
theorem sub_rgi_reversed : isSubtype (.type "range_iterator") (.type "reversed") = pure false := by rw [isSubtype_type]; kernel_rfl
theorem code_rev_range {r : Addr} {k : Nat} {t u v : Tok} {Q₁ : Value → Shared → Prop} (hr : IsRange s.heap r 0 (k : Int) 1 t u v) (hk : k ≤ 2 ^ 20)
    (h : Q₁ (.ref s.heap.objs.size) { s with heap := s.heap.push (rgObj ((k : Int) - 1) (k : Int) (-1)) }) :
    codeAny (model prog w) A (.call (.builtin "reversed.__new__") ⟨[.type "reversed", .ref r], []⟩) (wants Q₁ E) s := by
  have hT : s.TypeIs (.ref r) "range" := ⟨_, hr, rfl⟩
  refine codeAny_of_tree ?_
  show wpAny _ A.in1 (do checkBuiltinCall "reversed.__new__" ⟨[.type "reversed", .ref r], []⟩; again (.builtin "reversed.__new__" ⟨[.type "reversed", .ref r], []⟩)) _ _ s
  refine wpAny_bind (wpAny_of_eq (F.newCall_reversed_1 _) (wpAny_pure ⟨plainId_quiet F.plain_reversed_new _, codeAny_builtin F.entry_reversed_new ?_⟩))
  rw [Around.under_plainId F.plain_reversed_new _]
  unfold Builtin.«reversed.__new__»
  refine wpAny_bind (wpAny_of_eq (newClass_reversed _) ?_)
  try dsimp only
  refine wpAny_bind (wpAny_of_eq (a := ()) (by first | rfl | kernel_rfl) ?_)
  refine wpAny_bind (wpAny_of_eq (a := ()) (by first | rfl | kernel_rfl) ?_)
  try dsimp only
  refine wpAny_bind (wpAny_specialOf hT F.slot_range_reversed.lookup ?_)
  try dsimp only
  refine wpAny_bind (wpAny_of_eq (F.slot_range_reversed.bind _) ?_)
  try dsimp only
  first
  | rw [if_neg (show ¬ ((Value.builtin "range.__reversed__" == Value.none) = true) from Bool.false_ne_true)]
  | (show wpAny _ _ (if (Value.builtin "range.__reversed__" == Value.none) = true then _ else _) _ _ _; rw [if_neg (show ¬ ((Value.builtin "range.__reversed__" == Value.none) = true) from Bool.false_ne_true)])
  refine wpAny_bind (wpAny_rule ?_)
  refine wpAny_bind (m := runValue (.call (.builtin "range.__reversed__") ⟨[.ref r], []⟩)) (show wpAny _ _ (call (.builtin "range.__reversed__") [.ref r]) _ _ _ from call_range_rev hr hk ?_)
  first
  | exact wpAny_pure h
  | exact wpAny_bind (wpAny_pure (wpAny_pure h))
theorem call_rev_range {r : Addr} {k : Nat} {t u v : Tok} {Q : Value → Shared → Prop} (hr : IsRange s.heap r 0 (k : Int) 1 t u v) (hk : k ≤ 2 ^ 20)
    (h : Q (.ref s.heap.objs.size) { s with heap := s.heap.push (rgObj ((k : Int) - 1) (k : Int) (-1)) }) : wpAny (model prog w) A (call (.type "reversed") [.ref r]) Q E s := by
  refine callType_other (U := "range_iterator") (Q₁ := fun obj s₁ => obj = .ref s.heap.objs.size ∧ s₁ = { s with heap := s.heap.push (rgObj ((k : Int) - 1) (k : Int) (-1)) }) (by decide +kernel) F.create_reversed ⟨_, _, F.mro_reversed⟩ F.made_reversed sub_rgi_reversed (F.typeCall_reversed_1 _) (code_rev_range hr hk ⟨rfl, rfl⟩) ?_
  rintro obj s₁ ⟨rfl, rfl⟩
  exact ⟨⟨_, Heap.get?_push_size _ rfl, rfl⟩, h⟩
theorem rev_range {h₀ : Heap} {L : Addr} {m : Str → Option Value} {r : Addr} {k : Nat} {t u v : Tok} {news : List (Addr × Obj)} {Q : Value → Shared → Prop} (F : Fr h₀ L s.heap m) (N : News h₀ L s.heap news) (hr : IsRange s.heap r 0 (k : Int) 1 t u v) (hk : k ≤ 2 ^ 20)
    (h : ∀ D h', Fr h₀ L h' m → News h₀ L h' ((D, rgObj ((k : Int) - 1) (k : Int) (-1)) :: news) → (∀ p ∈ news, p.1 < D) → Q (.ref D) { s with heap := h' }) : wpAny (model prog w) A (call (.type "reversed") [.ref r]) Q E s := by
  refine call_rev_range hr hk ?_
  exact h _ _ (F.push _) (News.push F N _) fun p hp => Heap.lt_size (N p hp).1
end
end Mine
end
section
open PySem PySem.W PyProof.Rows
namespace Mine
section
variable {prog : Program} {w : World} {A : Around} {h₀ : Heap} {L : Addr} {m : Str → Option Value} {env : Env} {elt : Expr} {x : Str} {scope : Scope} {cl : List (Str × Addr)} {s : Shared} {S : List (Addr × Obj) → Prop} {P : Nat → Value → Prop} {Fin : List Value → List (Addr × Obj) → Prop}
/-- a comprehension by an invariant over its turns -/
theorem compRest_inv {n : Nat} (J : Nat → List Value → List (Addr × Obj) → Prop)
    (turn : ∀ i ys news v I oI C oC D m₂ h tk (E' : Value → Shared → Prop), i < n → J i ys news → P i v → LCg.NsObj oC m₂ → m₂ x = some v → Fr h₀ L h m → News h₀ L h ((I, oI) :: (C, oC) :: (D, LCg.lst ys) :: news) → LCg.Off3 I C D news → ((@Ne Nat I C) ∧ (@Ne Nat I D) ∧ (@Ne Nat C D)) →
      wpAny (model prog w) A (eval elt (compEnvC scope cl C env)) (LCg.CompEnd h₀ L m { s with heap := h, toks := tk } I oI C oC D (LCg.lst ys) S (fun y news' => J (i + 1) (ys ++ [y]) news')) E' { s with heap := h, toks := tk })
    (fin : ∀ ys news, J n ys news → Fin ys news) : ∀ (k i : Nat) (ys : List Value) (news : List (Addr × Obj)), i + k = n → J i ys news → LCg.CompRest prog w A h₀ L m env elt x scope cl s S P Fin k i ys news := by
  intro k
  induction k with
  | zero =>
    intro i ys news hi hJ
    have e : i = n := by omega
    subst e
    exact LCg.CompRest.zero (fin ys news hJ)
  | succ k ih =>
    intro i ys news hi hJ
    refine LCg.CompRest.succ ?_
    intro v I oI C oC D m₂ h tk E' hv hC hx F N off ne
    refine wpAny_mono (turn i ys news v I oI C oC D m₂ h tk E' (by omega) hJ hv hC hx F N off ne) (fun y s₂ hq => ?_) fun _ _ e => e
    obtain ⟨h', tk', nw, e, F', N', off', hS, hJ'⟩ := hq
    exact ⟨h', tk', nw, e, F', N', off', hS, ih (i + 1) _ _ (by omega) hJ'⟩
end
theorem strs_snoc {y : Str} {t : Tok} : ∀ {vs : List Value} {ys : List Str}, StrsAre vs ys → StrsAre (vs ++ [.str y t]) (ys ++ [y])
  | _, _, .nil => .cons y t .nil
  | _, _, .cons z u r => .cons z u (strs_snoc r)
end Mine
end
section
open PySem PySem.W PyProof.Rows
open PySem.Builtin PySem.Builtin.Str
namespace Mine
theorem owner_map : Manifest.owners.lookup (String.ofList ['p', 'a', 'm'].reverse) = some Manifest.sig_map := by kernel_rfl
theorem slot_map_init : Slot "map" "__init__" "object.__init__" :=
  .of (owner := "object") (n := "__init__") (by rw [typeLookup_type, builtinLookup_eq_fast]; kernel_rfl) (by decide +kernel) (by decide +kernel) (by decide +kernel)
    (by first | exact .inl (by decide +kernel) | exact .inr (by decide +kernel)) (by rw [isSubtype_type]; kernel_rfl)
theorem slot_map_iter : Slot "map" "__iter__" "map.__iter__" :=
  .of (owner := "map") (n := "__iter__") (by rw [typeLookup_type, builtinLookup_eq_fast]; kernel_rfl) (by decide +kernel) (by decide +kernel) (by decide +kernel)
    (by first | exact .inl (by decide +kernel) | exact .inr (by decide +kernel)) (by rw [isSubtype_type]; kernel_rfl)
theorem args_map_iter_1 (a : Value) : argsOk "map.__iter__" ⟨[a], []⟩ := by
  unfold argsOk; rw [signature?_of (id := "map.__iter__") (n := ['_', '_', 'r', 'e', 't', 'i', '_', '_']) (o := ['p', 'a', 'm']) (by kernel_rfl) owner_map]; kernel_rfl
theorem slot_map_next : Slot "map" "__next__" "map.__next__" :=
  .of (owner := "map") (n := "__next__") (by rw [typeLookup_type, builtinLookup_eq_fast]; kernel_rfl) (by decide +kernel) (by decide +kernel) (by decide +kernel)
    (by first | exact .inl (by decide +kernel) | exact .inr (by decide +kernel)) (by rw [isSubtype_type]; kernel_rfl)
theorem entry_map_next : entryFor table "map.__next__" = some Builtin.«map.__next__» := entryFor_of_tree (by kernel_rfl)
theorem args_map_next_1 (a : Value) : argsOk "map.__next__" ⟨[a], []⟩ := by
  unfold argsOk; rw [signature?_of (id := "map.__next__") (n := ['_', '_', 't', 'x', 'e', 'n', '_', '_']) (o := ['p', 'a', 'm']) (by kernel_rfl) owner_map]; kernel_rfl
theorem entry_map_iter : entryFor table "map.__iter__" = some Builtin.«dict_keyiterator.__iter__» :=
  entryFor_alias (id' := "dict_keyiterator.__iter__") (by kernel_rfl) (by first | rfl | decide +kernel | (unfold String.splitOn; simp +decide [String.splitOnAux])) (by decide +kernel) (by kernel_rfl)
theorem mro_map : mroOf (.type "map") = pure [.type "map", .type "object"] := by rw [mroOf_type]; kernel_rfl
theorem lookup_map_new : typeLookup (.type "map") "__new__" = pure (some (.builtin "map.__new__")) := by rw [typeLookup_type, builtinLookup_eq_fast]; kernel_rfl
theorem called_map : TypeCalled "map" "map.__new__" "object.__init__" :=
  ⟨by decide +kernel, by decide +kernel, ⟨_, _, mro_map⟩, madeBy_type mro_map lookup_map_new (by decide +kernel), by decide +kernel, by rw [isSubtype_type]; kernel_rfl, slot_map_init⟩
theorem typeCall_map_2 (a b : Value) : checkTypeCall "map" ⟨[a, b], []⟩ = pure () := by kernel_rfl
theorem newCall_map_2 (a b : Value) : checkBuiltinCall "map.__new__" ⟨[.type "map", a, b], []⟩ = pure () := by kernel_rfl
theorem entry_map_new : entryFor table "map.__new__" = some Builtin.«map.__new__» := entryFor_of_tree (by kernel_rfl)
theorem sub_map : isSubtype (.type "map") (.type "map") = pure true := by rw [isSubtype_type]; kernel_rfl
theorem map_no_len : typeLookup (.type "map") "__len__" = pure none := by rw [typeLookup_type, builtinLookup_eq_fast]; kernel_rfl
theorem map_no_hint : typeLookup (.type "map") "__length_hint__" = pure none := by rw [typeLookup_type, builtinLookup_eq_fast]; kernel_rfl
abbrev IsMap (h : Heap) (z TI : Addr) (f : Value) : Prop := h.get? z = some { cls := .type "map", dict := none, data := .fields #[.ref TI, f], slots := #[] }
abbrev IsSole (h : Heap) (T : Addr) (a : Value) : Prop := h.get? T = some { cls := .type "tuple", data := .seq #[a] }
abbrev mapH1 (h : Heap) (l : Addr) : Heap := h.push { cls := .type "list_iterator", data := .fields #[.ref l, .int 0 0] }
abbrev mapH2 (h : Heap) (l : Addr) : Heap := (mapH1 h l).push { cls := .type "tuple", data := .seq #[.ref h.objs.size] }
abbrev mapH3 (h : Heap) (l : Addr) (f : Value) : Heap := (mapH2 h l).push { cls := .type "map", data := .fields #[.ref (mapH1 h l).objs.size, f] }
theorem meets_map_new (f : Value) (l : Addr) (xs : Array Value) :
    Meets (Builtin.«map.__new__» ⟨[.type "map", f, .ref l], []⟩) (fun _ R s => s.heap.IsList l xs ∧ R (.ok (.ret (.ref (mapH2 s.heap l).objs.size))) { s with heap := mapH3 s.heap l f }) :=
  .of_wp fun prog w A R s h => by
    obtain ⟨hp, g, d, tk, os⟩ := s; obtain ⟨hl1, h⟩ := h
    have hsub := sub_map
    have hL1 : Heap.IsList (Shared.heap ⟨hp, g, d, tk, os⟩) l xs := hl1
    wp_walk using wpAny_pyIter_list hL1
    exact ⟨_, rfl, h⟩
section
variable {prog : Program} {w : World} {A : Around} {E : Value → Shared → Prop} {s : Shared}
theorem call_map_1 {l : Addr} {f : Value} {xs : Array Value} {Q : Value → Shared → Prop} (hl : s.heap.IsList l xs)
    (h : ∀ h', IsMap h' (s.heap.objs.size + 2) (s.heap.objs.size + 1) f → IsSole h' (s.heap.objs.size + 1) (.ref s.heap.objs.size) → h'.IsListIter s.heap.objs.size l 0 → h'.objs.size = s.heap.objs.size + 3 →
      (∀ c o, s.heap.get? c = some o → h'.get? c = some o) → Q (.ref (s.heap.objs.size + 2)) { s with heap := h' }) :
    wpAny (model prog w) A (call (.type "map") [f, .ref l]) Q E s := by
  refine callType_new called_map (by decide) (typeCall_map_2 _ _) (newCall_map_2 _ _) (fun obj => F.args_object_init_3 obj _ _) entry_map_new (meets_map_new f l xs) ⟨hl, ?_⟩
  have z1 : (mapH1 s.heap l).objs.size = s.heap.objs.size + 1 := Heap.size_push ..
  have z2 : (mapH2 s.heap l).objs.size = s.heap.objs.size + 2 := by rw [Heap.size_push, z1]
  have z3 : (mapH3 s.heap l f).objs.size = s.heap.objs.size + 3 := by rw [Heap.size_push, z2]
  have g3 : (mapH3 s.heap l f).get? (mapH2 s.heap l).objs.size = some _ := Heap.get?_push_size _ rfl
  have g2 : (mapH3 s.heap l f).get? (mapH1 s.heap l).objs.size = some _ := Heap.get?_push_of_some _ (Heap.get?_push_size _ rfl)
  have g1 : (mapH3 s.heap l f).get? s.heap.objs.size = some _ := Heap.get?_push_of_some _ (Heap.get?_push_of_some _ (Heap.get?_push_size _ rfl))
  show _ ∧ _
  rw [z1, z2] at g3
  rw [z1] at g2
  rw [z2]
  exact ⟨⟨_, g3, rfl⟩, h _ g3 g2 ⟨_, g1, rfl, rfl⟩ z3 fun c o x => Heap.get?_push_of_some _ (Heap.get?_push_of_some _ (Heap.get?_push_of_some _ x))⟩
structure MapApart (z TI i l : Addr) : Prop where
  TIz : TI ≠ z
  iz : i ≠ z
  TIi : TI ≠ i
  lz : l ≠ z
  li : l ≠ i
theorem map_next_item {z TI i l : Addr} {k : Nat} {xs : Array Value} {x : Str} {tx : Tok} {Q : Value → Shared → Prop} (D : MapApart z TI i l)
    (hz : IsMap s.heap z TI (.builtin "str.capitalize")) (hTI : IsSole s.heap TI (.ref i)) (h1 : s.heap.IsListIter i l k) (hl : s.heap.IsList l xs) (hx : xs[k]? = some (.str x tx)) (hfit : x.length ≤ 5592405)
    (hQ : ∀ h' t' tk, h'.IsListIter i l (k + 1) → Heap.SameBut i s.heap h' → Q (.str (Txt.capitalize x) t') { s with heap := h', toks := tk }) :
    wpAny (model prog w) A (Builtin.«map.__next__» ⟨[.ref z], []⟩) (fun fin s' => ∃ v, fin = .done (.ret v) ∧ Q v s') E s := by
  show wpAny _ _ (field (.ref z) 0 >>= _) _ _ _
  refine wpAny_bind (wpAny_field hz rfl (x := .ref TI) rfl ?_)
  refine wpAny_bind (wpAny_seqItems hTI rfl ?_)
  refine wpAny_bind ?_
  simp only [List.forIn_toArray, List.forIn_cons, List.forIn_nil]
  refine wpAny_bind (wpAny_bind (wpAny_holding ?_))
  refine wpAny_nextOf_list_item h1 hl hx fun h₂ h1₂ hs₂ => ?_
  refine wpAny_pure (wpAny_pure ?_)
  have hz₂ : IsMap h₂ z TI (.builtin "str.capitalize") := hs₂.extBut _ _ D.iz.symm hz
  show wpAny _ _ (field (.ref z) 1 >>= _) _ _ _
  refine wpAny_bind (wpAny_field hz₂ rfl (x := .builtin "str.capitalize") rfl ?_)
  refine wpAny_bind (wpAny_holding ?_)
  refine SCL.capitalize hfit fun t' k' _ => ?_
  refine wpAny_bind (wpAny_letGo ?_)
  exact wpAny_pure ⟨_, rfl, hQ h₂ t' k' h1₂ hs₂⟩
theorem map_next_end {z TI i l : Addr} {k : Nat} {xs : Array Value} {f : Value} {Q : Fin → Shared → Prop} (hh : A.handled = none) (D : MapApart z TI i l)
    (hz : IsMap s.heap z TI f) (hTI : IsSole s.heap TI (.ref i)) (h1 : s.heap.IsListIter i l k) (hl : s.heap.IsList l xs) (hx : xs[k]? = none)
    (hE : ∀ h' e, Heap.ExtBut i s.heap h' → (∃ o, h'.get? e = some o ∧ o.cls = .type "StopIteration") → E (.ref e) { s with heap := h' }) :
    wpAny (model prog w) A (Builtin.«map.__next__» ⟨[.ref z], []⟩) Q E s := by
  show wpAny _ _ (field (.ref z) 0 >>= _) _ _ _
  refine wpAny_bind (wpAny_field hz rfl (x := .ref TI) rfl ?_)
  refine wpAny_bind (wpAny_seqItems hTI rfl ?_)
  refine wpAny_bind ?_
  simp only [List.forIn_toArray, List.forIn_cons, List.forIn_nil]
  refine wpAny_bind (wpAny_bind (wpAny_holding ?_))
  exact wpAny_nextOf_list_end hh h1 hl hx hE
theorem wpAny_pyNext_map_item {z TI i l : Addr} {k : Nat} {xs : Array Value} {x : Str} {tx : Tok} {Q : Option Value → Shared → Prop} (D : MapApart z TI i l)
    (hz : IsMap s.heap z TI (.builtin "str.capitalize")) (hTI : IsSole s.heap TI (.ref i)) (h1 : s.heap.IsListIter i l k) (hl : s.heap.IsList l xs) (hx : xs[k]? = some (.str x tx)) (hfit : x.length ≤ 5592405)
    (hQ : ∀ h' t' tk, h'.IsListIter i l (k + 1) → Heap.SameBut i s.heap h' → Q (some (.str (Txt.capitalize x) t')) { s with heap := h', toks := tk }) :
    wpAny (model prog w) A (pyNext (.ref z)) Q E s := by
  have hT : s.TypeIs (.ref z) "map" := ⟨_, hz, rfl⟩
  unfold pyNext
  exact wpAny_bind (wpAny_attempt (wpAny_callSpecial?_slot (name := Str.ofString "__next__") hT slot_map_next
    (wpAny_call_entry slot_map_next hT entry_map_next
      (map_next_item D hz hTI h1 hl hx hfit fun h' t' tk a1 a2 => wpAny_pure (hQ h' t' tk a1 a2)) (args_map_next_1 _))))
theorem wpAny_pyNext_map_end {z TI i l : Addr} {k : Nat} {xs : Array Value} {f : Value} {Q : Option Value → Shared → Prop} (hh : A.handled = none) (D : MapApart z TI i l)
    (hz : IsMap s.heap z TI f) (hTI : IsSole s.heap TI (.ref i)) (h1 : s.heap.IsListIter i l k) (hl : s.heap.IsList l xs) (hx : xs[k]? = none)
    (hQ : ∀ h', Heap.ExtBut i s.heap h' → Q none { s with heap := h' }) : wpAny (model prog w) A (pyNext (.ref z)) Q E s := by
  have hT : s.TypeIs (.ref z) "map" := ⟨_, hz, rfl⟩
  unfold pyNext
  refine wpAny_bind (wpAny_attempt (wpAny_callSpecial?_slot (name := Str.ofString "__next__") hT slot_map_next
    (wpAny_call_entry slot_map_next hT entry_map_next (map_next_end hh D hz hTI h1 hl hx fun h' e hk he => ?_) (args_map_next_1 _))))
  obtain ⟨o, ho, hc⟩ := he
  refine wpAny_bind (wpAny_isInstance (T := "StopIteration") (b := true) ⟨o, ho, hc⟩ isSubtype_stop ?_)
  exact wpAny_pure (hQ _ hk)
theorem wpAny_pyIter_map {z TI : Addr} {f : Value} {Q : Value → Shared → Prop} (hz : IsMap s.heap z TI f) (h : Q (.ref z) s) : wpAny (model prog w) A (pyIter (.ref z)) Q E s := by
  have hT : s.TypeIs (.ref z) "map" := ⟨_, hz, rfl⟩
  refine wpAny_pyIter_slot hT slot_map_iter (wpAny_call_entry slot_map_iter hT entry_map_iter ?_ (args_map_iter_1 _))
  show wpAny _ _ (ret (.ref z)) _ _ s
  exact wpAny_pure ⟨_, rfl, "map", _, hT, slot_map_next.lookup, h⟩
theorem walks_map (hh : A.handled = none) (z TI i l : Addr) (D : MapApart z TI i l) (vs : List Value) (ys : List Str) (hS : StrsAre vs ys) (hfit : ∀ y ∈ ys, y.length ≤ 5592405) :
    Walks prog w A z [z, TI, i, l] [i] ys.length (fun j v => ∃ y t, ys[j]? = some y ∧ v = .str (Txt.capitalize y) t)
      (fun j h => IsMap h z TI (.builtin "str.capitalize") ∧ IsSole h TI (.ref i) ∧ h.IsListIter i l j ∧ h.IsList l vs.toArray) where
  sub := fun b hb => by simp at hb; simp [hb]
  frame := fun _ _ _ st hk => ⟨hk z (by simp) _ st.1, hk TI (by simp) _ st.2.1, st.2.2.1.at fun o e => hk i (by simp) o e, st.2.2.2.at fun o e => hk l (by simp) o e⟩
  item := fun j s Q E hj st hQ => by
    obtain ⟨y, hy⟩ : ∃ y, ys[j]? = some y := ⟨ys[j], List.getElem?_eq_getElem hj⟩
    have hv : ∃ t, vs[j]? = some (.str y t) := by
      clear st hQ hfit
      induction hS generalizing j with
      | nil => cases hy
      | cons y' t' r ih =>
        cases j with
        | zero => exact ⟨t', by simpa using hy⟩
        | succ j => exact ih j (by simpa using hj) (by simpa using hy)
    obtain ⟨t, hv⟩ := hv
    refine wpAny_pyNext_map_item D st.1 st.2.1 st.2.2.1 st.2.2.2 (x := y) (tx := t) (by simpa using hv) (hfit y (List.mem_of_getElem? hy)) fun h' t' tk a1 a2 => ?_
    exact hQ _ h' tk ⟨y, t', hy, rfl⟩ ⟨a2.extBut _ _ D.iz.symm st.1, a2.extBut _ _ D.TIi st.2.1, a1, st.2.2.2.extBut a2.extBut D.li⟩ fun b o hb e => a2.extBut b o (fun h => hb (by simp [h])) e
  done := fun s Q E st hQ => by
    refine wpAny_pyNext_map_end hh D st.1 st.2.1 st.2.2.1 st.2.2.2 ?_ fun h' he' => hQ h' s.toks fun b o hb e => he' b o (fun h => hb (by simp [h])) e
    have := hS.length
    simp [this]
  self := fun _ _ _ _ st hQ => wpAny_pyIter_map st.1 hQ
variable {I : Addr} {fp wr : List Addr} {G : Array GenState → Array GenState → Prop} {n : Nat} {P : Nat → Value → Prop} {St : Nat → Shared → Prop}
theorem collect_map {Q : List Value → Shared → Prop} (W : WalksS prog w A.in1 I fp wr G n P St) (hT : ∀ i s, St i s → s.TypeIs (.ref I) "map") (hst : St 0 s) (hfp : ∀ b ∈ fp, b < s.heap.objs.size) (hI : I ∈ fp)
    (hQ : ∀ s' acc, Moved wr G s s' → ItemsOf P acc n → Q acc.toList s') (hn : n ≤ sizeLine) : wpAny (model prog w) A (collect (.ref I)) Q E s := by
  have hSf : s.heap.objs.size ∉ fp := fun hm => Nat.lt_irrefl _ (hfp _ hm)
  have hSI : s.heap.objs.size ≠ I := fun e => hSf (e ▸ hI)
  unfold collect
  refine wpAny_bind (wpAny_runValue (codeAny_builtin F.entry_proto_collect ?_))
  rw [Around.under_plainId F.plain_proto_collect _]
  show wpAny _ A.in1 (newList [] >>= fun l => again (.builtin "list.__iadd__" ⟨[l, .ref I], []⟩)) _ _ s
  refine wpAny_bind (wpAny_newObj_type ?_)
  refine wpAny_pure ⟨plainId_quiet F.plain_list_iadd _, codeAny_builtin F.entry_list_iadd ?_⟩
  rw [Around.under_plainId F.plain_list_iadd _]
  have hst₁ := W.frame 0 s (s.heap.push { cls := .type "list", data := .seq ([] : List Value).toArray }) s.toks hst (Nat.le_refl _) fun b _ o e => Heap.get?_push_of_some _ e
  show wpAny _ A.in1 (Builtin.List.listExtendWith (.ref s.heap.objs.size) (.ref I) (.ref s.heap.objs.size)) _ _ _
  unfold Builtin.List.listExtendWith
  refine wpAny_bind (wpAny_typeOf (hT 0 _ hst₁) ?_)
  have h1 : Builtin.List.listSameRef (.ref s.heap.objs.size) (.ref I) = false := by simp [Builtin.List.listSameRef, hSI]
  have h2 : (Value.type "map" == Value.type "list") = false := by decide
  have h3 : (Value.type "map" == Value.type "tuple") = false := by decide
  simp only [h1, h2, h3, Bool.or_false, Bool.false_eq_true, if_false]
  refine wpAny_bind (W.self 0 _ _ _ hst₁ ?_)
  refine wpAny_bind (wpAny_holding ?_)
  unfold Builtin.List.listLengthHint
  refine wpAny_bind (wpAny_specialOf (hT 0 _ hst₁) map_no_len ?_)
  show wpAny _ A.in1 (specialOf (Value.ref I) (Str.ofString "__length_hint__") >>= _) _ _ _
  refine wpAny_bind (wpAny_specialOf (hT 0 _ hst₁) map_no_hint ?_)
  refine wpAny_pure ?_
  show wpAny _ A.in1 (rule "list.extend.makes-room" >>= fun _ => Builtin.List.listTouch (.ref s.heap.objs.size) >>= fun _ =>
    again (.builtin "list.extend.loop" ⟨[.ref s.heap.objs.size, .ref I, .ref s.heap.objs.size], []⟩)) _ _ _
  refine wpAny_bind (wpAny_rule ?_)
  have hS₁ : (s.heap.push { cls := .type "list", data := .seq ([] : List Value).toArray }).get? s.heap.objs.size = some { cls := .type "list", data := .seq ([] : List Value).toArray } := Heap.get?_push_size _ rfl
  refine wpAny_bind ?_
  show wpAny _ A.in1 (updateSeq s.heap.objs.size (·.push .none) >>= fun _ => updateSeq s.heap.objs.size (·.pop)) _ _ _
  refine wpAny_bind (wpAny_updateSeq hS₁ rfl ?_)
  have hS₂ := Heap.get?_update_self (Obj.mapSeq (·.push Value.none)) hS₁ rfl
  refine wpAny_updateSeq hS₂ rfl ?_
  have hS₃ := Heap.get?_update_self (Obj.mapSeq (·.pop)) hS₂ rfl
  have oth : ∀ b o, b ≠ s.heap.objs.size → (s.heap.push { cls := .type "list", data := .seq ([] : List Value).toArray }).get? b = some o →
      (((s.heap.push { cls := .type "list", data := .seq ([] : List Value).toArray }).update s.heap.objs.size (Obj.mapSeq (·.push Value.none))).update s.heap.objs.size (Obj.mapSeq (·.pop))).get? b = some o :=
    fun b o hb e => (Heap.get?_update_other _ _ (Ne.symm hb)).trans ((Heap.get?_update_other _ _ (Ne.symm hb)).trans e)
  refine wpAny_pure ⟨plainId_quiet F.plain_extend_loop _, codeAny_extend_loopS W hn _ hSf _ n 0 _ _ _ rfl (Nat.zero_le _)
    (W.frame 0 ({ s with heap := s.heap.push { cls := .type "list", data := .seq ([] : List Value).toArray } } : Shared) _ s.toks hst₁ (Nat.le_refl _) fun b hb o e => oth b o (fun h => hSf (h ▸ hb)) e) hS₃ (ItemsOf.nil P) fun s' acc' c' hm hS' hacc => ?_⟩
  show wpAny _ A (load s.heap.objs.size >>= _) _ _ s'
  refine wpAny_bind (wpAny_load hS' ?_)
  refine wpAny_pure (hQ s' acc' (Moved.drop_new (o := { cls := .type "list", data := .seq ([] : List Value).toArray }) (tk := s.toks) (Moved.trans W.gtrans ((Moved.refl W.grefl).then_heap (by first | exact Nat.le_refl _ | exact Nat.le_succ _ | omega) fun b o hb e => ?_) hm) (Nat.le_refl _)) hacc)
  exact oth b o (fun h => hb (h ▸ List.mem_cons_self)) e
theorem join_map {x : Str} {t : Tok} {Q : Value → Shared → Prop} (W : WalksS prog w A.in1.in1 I fp wr G n P St) (hT : ∀ i s, St i s → s.TypeIs (.ref I) "map") (hst : St 0 s) (hfp : ∀ b ∈ fp, b < s.heap.objs.size) (hI : I ∈ fp)
    (hstr : ∀ i v, P i v → ∃ y u, v = Value.str y u)
    (hq : ∀ s' (l : List (Str × Tok)), Moved wr G s s' → ItemsOf P (strValues l).toArray n → JoinOk x (l.map (·.1)) = true ∧ ∀ t' k, Q (.str (Txt.join x (l.map (·.1))) t') { s' with toks := k })
    (hsz : n ≤ sizeLine) :
    wpAny (model prog w) A (call (.builtin "str.join") [.str x t, .ref I]) Q E s := by
  refine wpAny_call (codeAny_call_builtin F.slot_str_join.plain F.entry_str_join (F.slot_str_join.check _ _ _ _ _ _ _ _ (typeIs_str _ _ _) (F.args_str_join_2 _ _) ?_))
  rw [join_tree_other]
  refine wpAny_bind (wpAny_typeOf (hT 0 s hst) ?_)
  show wpAny _ A.in1 ((pyIter (.ref I)).tryCatch _ >>= fun it => collect it >>= fun items => joinTail x items) _ _ s
  refine wpAny_bind (wpAny_tryCatch (W.of_in1.self 0 s _ _ hst ?_))
  refine wpAny_bind (collect_map W hT hst hfp hI (fun s' acc hm hacc => ?_) hsz)
  obtain ⟨l, hl⟩ := exists_strValues acc.toList fun v hv => by
    obtain ⟨j, hj, rfl⟩ := Array.mem_iff_getElem.mp (Array.mem_toList_iff.mp hv)
    exact hstr j _ (hacc.2 j _ (Array.getElem?_eq_getElem hj))
  rw [← hl]
  have hacc' : ItemsOf P (strValues l).toArray n := by rw [hl]; simpa using hacc
  obtain ⟨hok, hpost⟩ := hq s' l hm hacc'
  unfold JoinOk at hok
  rw [Bool.not_eq_true'] at hok
  have g : Gives (joinTail x (strValues l)) (joinMade x l) := by
    have g0 := gives_joinTail x l hok
    cases l with
    | nil => exact g0
    | cons p r => cases r with
      | nil => exact g0
      | cons q r' => exact g0
  exact g prog w A (wants Q E) s' (post_join l ⟨joinFit_length hok, hpost⟩)
end
end Mine
end
section
open PySem PySem.W PyProof.Rows
namespace Mine
theorem meta_str : typeOf (.type "str") = pure (.type "type") := by first | rfl | kernel_rfl | (show builtinType _ = _; rw [builtinType_eq_fast]; kernel_rfl)
theorem find_cap (K : Frag) : findCls K (.type "str") (.type "type") (Str.ofString "capitalize") = some (.val (.builtin "str.capitalize")) := by first | rfl | kernel_rfl | decide +kernel
theorem get_type {prog : Program} {w : World} {A : Around} {E : Value → Shared → Prop} {s : Shared} {K : Frag} {L : Addr} {h₀ : Heap} {m : Str → Option Value} {name : Str} {v : Value} {T : String} {expr : Bool} {Q : Value → Shared → Prop} (F : Fr h₀ L s.heap m) (X₀ : K.In h₀) (ht : typeOf (.type T) = pure (.type "type")) (hs : Manifest.isStub T = false)
    (e : findCls K (.type T) (.type "type") name = some (.val v)) (hh : handedIn v = true) (h : Q v { s with toks := s.toks + 1 }) : wpAny (model prog w) A (getAttr (.type T) name expr) Q E s := by
  have X := X₀.keeps F.keep
  have hstub : opaqueClassAbove (.type T) = pure none := by unfold opaqueClassAbove; dsimp only; rw [hs]; rfl
  have L0 : Looks (model prog w) s.heap (typeOf (.type T)) (.type "type") := Looks.of_pure ht
  have hg : findIn K (.type "type") "__getattribute__" = some (some (.builtin "type.__getattribute__")) := type_tga
  have LO : Looks (model prog w) s.heap (opaqueClassAbove (.type T)) none := Looks.of_pure hstub
  exact cls_open X LO L0 hg (looks_hook X (r := none) (by rfl)) (by show subIn K _ _ = _; rfl) e
    (wpAny_pure (by show wpAny _ _ (handedOut v) _ _ _; rw [handedOut_of hh]; exact wpAny_pure h))
end Mine
end
section
open PySem PySem.W PyProof.Rows PyProof.V PySem.Spec PySem.SeqAt
namespace Mine
def StrsOk (xs : List Str) : Prop := ∀ x ∈ xs, PyData.canLay0 (.str x) = true
theorem strsOk_rev {xs : List Str} (h : StrsOk xs) : StrsOk xs.reverse := fun x hx => h x (List.mem_reverse.mp hx)
theorem rev_take_succ {ys : List Str} {i j : Nat} (hi : i < ys.length) (e : j = ys.length - 1 - i) : ys.reverse.take (i + 1) = ys.reverse.take i ++ [ys.getD j Str.empty] := by
  subst e
  have h1 : ys.reverse[i]? = some (ys.getD (ys.length - 1 - i) Str.empty) := by
    rw [List.getElem?_reverse hi, List.getD_eq_getElem?_getD, List.getElem?_eq_getElem (by omega)]; rfl
  rw [List.take_add_one, h1]; rfl
theorem canLayAll0_strs : ∀ {xs : List Str}, StrsOk xs → PyData.canLayAll0 (xs.map PyData.str) = true
  | [], _ => by simp [PyData.canLayAll0]
  | n :: r, h => by
    simp only [List.map_cons, PyData.canLayAll0, Bool.and_eq_true]
    exact ⟨h n (by simp), canLayAll0_strs fun x hx => h x (List.mem_cons_of_mem _ hx)⟩
theorem depthAll_strs : ∀ xs : List Str, PyData.depthAll (xs.map PyData.str) ≤ 1
  | [] => by simp [PyData.depthAll]
  | n :: r => by
    have := depthAll_strs r
    simp only [List.map_cons, PyData.depthAll, PyData.depth]
    omega
theorem shaped_strs {xs : List Str} (h : StrsOk xs) : shaped (.list (xs.map PyData.str)) = true := by
  have h1 := depthAll_strs xs
  have h2 : PyData.depth (.list (xs.map PyData.str)) ≤ 64 := by simp only [PyData.depth]; omega
  show (PyData.canLay0 (.list (xs.map PyData.str)) && decide (PyData.depth (.list (xs.map PyData.str)) ≤ 64)) = true
  rw [Bool.and_eq_true]
  exact ⟨by simp only [PyData.canLay0]; exact canLayAll0_strs h, decide_eq_true h2⟩
theorem noMix_strs : ∀ xs ys : List Str, noMixAll (xs.map PyData.str) (ys.map PyData.str) = true
  | [], [] => by simp [noMixAll]
  | [], _ :: _ => by simp [noMixAll]
  | _ :: _, [] => by simp [noMixAll]
  | _ :: r, _ :: q => by simp [noMixAll, noMix, noMix_strs r q]
theorem same_strs : ∀ xs ys : List Str, PySem.Spec.sameAll (xs.map PyData.str) (ys.map PyData.str) = decide (xs = ys)
  | [], [] => by simp [PySem.Spec.sameAll]
  | [], _ :: _ => by simp [PySem.Spec.sameAll]
  | _ :: _, [] => by simp [PySem.Spec.sameAll]
  | n :: r, k :: q => by
    simp only [List.map_cons, PySem.Spec.sameAll, PySem.Spec.same, same_strs r q]
    by_cases h : n = k <;> simp [h]
theorem reads_strs {h : Heap} {a : Addr} {vs : List Value} {xs : List Str} (hl : h.IsList a vs.toArray) (hi : StrsAre vs xs) : Reads h (.ref a) (.list (xs.map PyData.str)) [a] := by
  obtain ⟨o, ho, hc, n, hd⟩ := hl
  exact Reads.list ho hc hd (by simpa using strs_readAll h hi)
section
variable {prog : Program} {w : World} {A : Around} {E : Value → Shared → Prop} {s : Shared}
theorem slen {h₀ : Heap} {L D : Addr} {news : List (Addr × Obj)} {n : Nat} {us : List Value} {l : List Str} {Q : Value → Shared → Prop}
    (N : News h₀ L s.heap news) (hm : (D, listOf us.toArray n) ∈ news) (hi : StrsAre us l) (hz : l.length ≤ 1000) (h : Q (.int (l.length : Int) (s.toks + 1)) { s with toks := s.toks + 1 + 1 }) :
    wpAny (model prog w) A (call (.builtin "len") [.ref D]) Q E s := by
  have e : us.toArray.size = l.length := by rw [List.size_toArray]; exact hi.length
  exact len_list (PySem.IsL.isList (n := n) (N _ hm).1) (by omega) (by rw [e]; exact h)
theorem eq_strs {a b : Addr} {vs us : List Value} {xs ys : List Str} {Q : Value → Shared → Prop} (hl : s.heap.IsList a vs.toArray) (hi : StrsAre vs xs) (hl' : s.heap.IsList b us.toArray) (hi' : StrsAre us ys) (ox : StrsOk xs) (oy : StrsOk ys) (hu : A.units + 64 < cLine)
    (h : Q (.bool (decide (xs = ys))) s) : wpAny (model prog w) A (compareOp .Eq (.ref a) (.ref b)) Q E s :=
  eq_dataH_same (reads_strs hl hi) (reads_strs hl' hi') (shaped_strs ox) (shaped_strs oy) hu (by simp only [noMix]; exact noMix_strs xs ys) (by simp only [PySem.Spec.same]; rw [same_strs]; exact h)
theorem ne_strs {a b : Addr} {vs us : List Value} {xs ys : List Str} {Q : Value → Shared → Prop} (hl : s.heap.IsList a vs.toArray) (hi : StrsAre vs xs) (hl' : s.heap.IsList b us.toArray) (hi' : StrsAre us ys) (ox : StrsOk xs) (oy : StrsOk ys) (hu : A.units + 64 < cLine)
    (h : Q (.bool (!decide (xs = ys))) s) : wpAny (model prog w) A (compareOp .NotEq (.ref a) (.ref b)) Q E s :=
  ne_dataH_same (reads_strs hl hi) (reads_strs hl' hi') (shaped_strs ox) (shaped_strs oy) hu (by simp only [noMix]; exact noMix_strs xs ys) (by simp only [PySem.Spec.same]; rw [same_strs]; exact h)
end
end Mine
end
section
open PySem PySem.W PyProof.Rows
namespace Mine
local macro_rules | `(tactic| walk_at "setItem ref int") => `(tactic| (k_here; (with_reducible show wpAny _ _ (setItem (Value.ref _) (Value.int _ _) (Value.str _ _)) _ _ _); k_dflt (refine' sset ?k1 ?k2 ?k3 ?k4 ?k5 ?k6 ?k7 ?_; (case k1 => k_asm); (case k2 => k_asm); (case k3 => k_upd); (case k4 => with_reducible assumption); (case k5 => ksa_idx); (case k6 => ksa_idx); (case k7 => ksa_idx); k_whole); intro h' F' N' hi' hl'; (try k_sweep)))
local macro_rules | `(tactic| walk_at "binaryOp RShift int int") => `(tactic| refine shr1 (by omega) ?_)
local macro_rules | `(tactic| k_all) => `(tactic| assumption)
theorem sd_min {w : World} {mean : ExcName → Option Value} {mg mb : Str → Option Value} {dp un : Nat} {gd : Option (List Code)} {cn : Str} {cs : Scope} {a : Addr} {ccd : Value} {cl : List (Str × Addr)} {outer : List Env} {A₀ : Around} {base h₀ : Heap} {L : Addr} {m : Str → Option Value} {s : Shared} {Q E : Value → Shared → Prop}
  {l : Addr} {vs : List Value} {xs : List Str} {n : Nat} {rest : List (Addr × Obj)} {start pos : Nat} {t1 t2 : Tok}
  (B : Below A₀ base outer h₀) (F : Fr h₀ L s.heap m) (X : (hd.heap_39 w.params).In h₀) (N : News h₀ L s.heap ((l, listOf vs.toArray n) :: rest)) (T : Top hd.view_39 LO mean mg mb h₀) (hk : cs.kind = .function) (hrest : ∀ p ∈ rest, p.1 ≠ l)
  (hS : StrsAre vs xs) (hp : pos < xs.length) (hlen : xs.length ≤ 1000) (hdp : dp + 1 < recursionLimit) (hun : un + 8 < cLine)
  (hret : ∀ vs' h' tk', StrsAre vs' (siftdown slt xs start pos) → Fr h₀ L h' m → News h₀ L h' ((l, listOf vs'.toArray n) :: rest) → Q .none { s with heap := h', toks := tk' }) :
  wpAny (model PySem.Challenge.rw_mr0165_01.row.prog w) (ktrTop dp un gd cn cs L a ccd cl outer) (call (.ref 49) [.ref l, .int (start : Int) t1, .int (pos : Int) t2]) Q E s := by
  revert X
  k_fill
  intro X
  refine wpAny_call ?_
  k_dflt ktr_enter
  repeat' ((fail_if_success (with_reducible show wpAny _ _ (exec (Stmt.While _ _ _ _) _) _ _ _)); first | (k_unfold; (try dsimp only)) | (k_end; wrow_close) | walk1 | (dsimp only; walk1) | (leave1; walk_say "STEP leave1"; try dsimp only) | fail "no step")
  (rename Fr _ _ _ _ => lF'); (rename News _ _ _ _ => lN')
  rename StrsAre _ _ => hS
  refine ksw_while (σ := List Value × List Str × Nat × Tok) (fun c => (l, listOf c.1.toArray n) :: rest) (fun c => [(Str.ofString "pos", .int (c.2.2.1 : Int) c.2.2.2)]) (fun c => StrsAre c.1 c.2.1) [Str.ofString "parentpos", Str.ofString "parent"]
    (fun c => c.2.2.1 < c.2.1.length ∧ c.2.1.length = xs.length ∧ sdLoop slt (xs.getD pos Str.empty) start c.2.1 c.2.2.1 = siftdown slt xs start pos) (fun c => c.2.2.1) (vs, xs, pos, t2) lF' lN' hS (by kst_all) ⟨hp, rfl, rfl⟩ ?_
  clear lF' lN' hS
  rintro ⟨vs1, xs1, p1, tk1⟩ u h1 tk2 hf1 ⟨hp1, hl1, he1⟩ F1 N1
  dsimp only [kstB] at hf1 hp1 hl1 he1 F1 N1 ⊢
  k_fold
  repeat' ((fail_if_success (with_reducible show KswEnd _ _ _ _ _ _ _ _ _ _ _ _)); first | (k_unfold; (try dsimp only)) | (k_end; wrow_close) | walk1 | (dsimp only; walk1) | (leave1; walk_say "STEP leave1"; try dsimp only) | fail "no step")
  · (rename News _ _ _ _ => nE); (rename StrsAre (List.set _ _ _) _ => hs); (rename Fr _ _ _ _ => fE)
    rename (LT.lt (α := List Nat) _ _) => hlt
    refine ksw_end (_, _, (p1 - 1) / 2, _) fE nE (fun p hp => hp) hs (by kst_all) (by ksw_same) ⟨?_, ?_, ?_⟩ ?_
    · show (p1 - 1) / 2 < (List.set _ _ _).length
      rw [List.length_set]; omega
    · show (List.set _ _ _).length = _
      rw [List.length_set]; exact hl1
    · rw [← he1, sdLoop_go (lt := slt) (new := xs.getD pos Str.empty) (start := start) (h := xs1) (pos := p1) (by omega) (decide_eq_true hlt)]
      rfl
    · show (p1 - 1) / 2 < p1
      omega
  · (rename News h₀ _ _ _ => nE); (rename StrsAre (List.set _ _ _) _ => hs); (rename Fr h₀ _ _ _ => fE)
    rename (¬ LT.lt (α := List Nat) _ _) => hlt
    refine hret _ _ _ ?_ fE nE
    rw [← he1, sdLoop_stop (lt := slt) (new := xs.getD pos Str.empty) (start := start) (h := xs1) (pos := p1) (decide_eq_false hlt)]
    exact hs
  · (rename News h₀ _ _ _ => nE); (rename StrsAre (List.set _ _ _) _ => hs); (rename Fr h₀ _ _ _ => fE)
    refine hret _ _ _ ?_ fE nE
    rw [← he1, sdLoop_end (by omega)]
    exact hs
theorem sd_max {w : World} {mean : ExcName → Option Value} {mg mb : Str → Option Value} {dp un : Nat} {gd : Option (List Code)} {cn : Str} {cs : Scope} {a : Addr} {ccd : Value} {cl : List (Str × Addr)} {outer : List Env} {A₀ : Around} {base h₀ : Heap} {L : Addr} {m : Str → Option Value} {s : Shared} {Q E : Value → Shared → Prop}
  {l : Addr} {vs : List Value} {xs : List Str} {n : Nat} {rest : List (Addr × Obj)} {start pos : Nat} {t1 t2 : Tok}
  (B : Below A₀ base outer h₀) (F : Fr h₀ L s.heap m) (X : (hd.heap_39 w.params).In h₀) (N : News h₀ L s.heap ((l, listOf vs.toArray n) :: rest)) (T : Top hd.view_39 LO mean mg mb h₀) (hk : cs.kind = .function) (hrest : ∀ p ∈ rest, p.1 ≠ l)
  (hS : StrsAre vs xs) (hp : pos < xs.length) (hlen : xs.length ≤ 1000) (hdp : dp + 1 < recursionLimit) (hun : un + 8 < cLine)
  (hret : ∀ vs' h' tk', StrsAre vs' (siftdown sgt xs start pos) → Fr h₀ L h' m → News h₀ L h' ((l, listOf vs'.toArray n) :: rest) → Q .none { s with heap := h', toks := tk' }) :
  wpAny (model PySem.Challenge.rw_mr0165_01.row.prog w) (ktrTop dp un gd cn cs L a ccd cl outer) (call (.ref 63) [.ref l, .int (start : Int) t1, .int (pos : Int) t2]) Q E s := by
  revert X
  k_fill
  intro X
  refine wpAny_call ?_
  k_dflt ktr_enter
  repeat' ((fail_if_success (with_reducible show wpAny _ _ (exec (Stmt.While _ _ _ _) _) _ _ _)); first | (k_unfold; (try dsimp only)) | (k_end; wrow_close) | walk1 | (dsimp only; walk1) | (leave1; walk_say "STEP leave1"; try dsimp only) | fail "no step")
  (rename Fr _ _ _ _ => lF'); (rename News _ _ _ _ => lN')
  rename StrsAre _ _ => hS
  refine ksw_while (σ := List Value × List Str × Nat × Tok) (fun c => (l, listOf c.1.toArray n) :: rest) (fun c => [(Str.ofString "pos", .int (c.2.2.1 : Int) c.2.2.2)]) (fun c => StrsAre c.1 c.2.1) [Str.ofString "parentpos", Str.ofString "parent"]
    (fun c => c.2.2.1 < c.2.1.length ∧ c.2.1.length = xs.length ∧ sdLoop sgt (xs.getD pos Str.empty) start c.2.1 c.2.2.1 = siftdown sgt xs start pos) (fun c => c.2.2.1) (vs, xs, pos, t2) lF' lN' hS (by kst_all) ⟨hp, rfl, rfl⟩ ?_
  clear lF' lN' hS
  rintro ⟨vs1, xs1, p1, tk1⟩ u h1 tk2 hf1 ⟨hp1, hl1, he1⟩ F1 N1
  dsimp only [kstB] at hf1 hp1 hl1 he1 F1 N1 ⊢
  k_fold
  repeat' ((fail_if_success (with_reducible show KswEnd _ _ _ _ _ _ _ _ _ _ _ _)); first | (k_unfold; (try dsimp only)) | (k_end; wrow_close) | walk1 | (dsimp only; walk1) | (leave1; walk_say "STEP leave1"; try dsimp only) | fail "no step")
  · (rename News _ _ _ _ => nE); (rename StrsAre (List.set _ _ _) _ => hs); (rename Fr _ _ _ _ => fE)
    rename (LT.lt (α := List Nat) _ _) => hlt
    refine ksw_end (_, _, (p1 - 1) / 2, _) fE nE (fun p hp => hp) hs (by kst_all) (by ksw_same) ⟨?_, ?_, ?_⟩ ?_
    · show (p1 - 1) / 2 < (List.set _ _ _).length
      rw [List.length_set]; omega
    · show (List.set _ _ _).length = _
      rw [List.length_set]; exact hl1
    · rw [← he1, sdLoop_go (lt := sgt) (new := xs.getD pos Str.empty) (start := start) (h := xs1) (pos := p1) (by omega) (decide_eq_true hlt)]
      rfl
    · show (p1 - 1) / 2 < p1
      omega
  · (rename News h₀ _ _ _ => nE); (rename StrsAre (List.set _ _ _) _ => hs); (rename Fr h₀ _ _ _ => fE)
    rename (¬ LT.lt (α := List Nat) _ _) => hlt
    refine hret _ _ _ ?_ fE nE
    rw [← he1, sdLoop_stop (lt := sgt) (new := xs.getD pos Str.empty) (start := start) (h := xs1) (pos := p1) (decide_eq_false hlt)]
    exact hs
  · (rename News h₀ _ _ _ => nE); (rename StrsAre (List.set _ _ _) _ => hs); (rename Fr h₀ _ _ _ => fE)
    refine hret _ _ _ ?_ fE nE
    rw [← he1, sdLoop_end (by omega)]
    exact hs
end Mine
end
section
open PySem PySem.W PyProof.Rows
namespace Mine
local macro_rules | `(tactic| walk_at "setItem ref int") => `(tactic| (k_here; (with_reducible show wpAny _ _ (setItem (Value.ref _) (Value.int _ _) (Value.str _ _)) _ _ _); k_dflt (refine' sset ?k1 ?k2 ?k3 ?k4 ?k5 ?k6 ?k7 ?_; (case k1 => k_asm); (case k2 => k_asm); (case k3 => k_upd); (case k4 => with_reducible assumption); (case k5 => ksa_idx); (case k6 => ksa_idx); (case k7 => ksa_idx); k_whole); intro h' F' N' hi' hl'; (try k_sweep)))
local macro_rules | `(tactic| walk_at "binaryOp RShift int int") => `(tactic| refine shr1 (by omega) ?_)
local macro_rules | `(tactic| k_all) => `(tactic| assumption)
local macro_rules | `(tactic| walk_at "call ref") => `(tactic| (k_here; (with_reducible show wpAny _ _ (call (Value.ref 49) _) _ _ _); k_dflt (refine' sd_min ?kB ?kF ?kX ?kN ?kT ?kk ?kr ?kS ?kp ?kl ?kd ?ku ?_; (case kB => k_asm); (case kF => k_asm); (case kX => k_asm); (case kN => k_asm); (case kT => k_asm); (case kk => first | exact rfl | assumption); (case kr => assumption); (case kS => assumption); (case kp => ((try simp only [List.length_set]); omega)); (case kl => ((try simp only [List.length_set]); omega)); (case kd => ktr_room); (case ku => ktr_units)); intro vsC hC tkC SC FC NC))
local macro_rules | `(tactic| walk_at "call ref") => `(tactic| (k_here; (with_reducible show wpAny _ _ (call (Value.ref 63) _) _ _ _); k_dflt (refine' sd_max ?kB ?kF ?kX ?kN ?kT ?kk ?kr ?kS ?kp ?kl ?kd ?ku ?_; (case kB => k_asm); (case kF => k_asm); (case kX => k_asm); (case kN => k_asm); (case kT => k_asm); (case kk => first | exact rfl | assumption); (case kr => assumption); (case kS => assumption); (case kp => ((try simp only [List.length_set]); omega)); (case kl => ((try simp only [List.length_set]); omega)); (case kd => ktr_room); (case ku => ktr_units)); intro vsC hC tkC SC FC NC))
theorem su_min {w : World} {mean : ExcName → Option Value} {mg mb : Str → Option Value} {dp un : Nat} {gd : Option (List Code)} {cn : Str} {cs : Scope} {a : Addr} {ccd : Value} {cl : List (Str × Addr)} {outer : List Env} {A₀ : Around} {base h₀ : Heap} {L : Addr} {m : Str → Option Value} {s : Shared} {Q E : Value → Shared → Prop}
  {l : Addr} {vs : List Value} {xs : List Str} {n : Nat} {rest : List (Addr × Obj)} {pos : Nat} {t1 : Tok}
  (B : Below A₀ base outer h₀) (F : Fr h₀ L s.heap m) (X : (hd.heap_39 w.params).In h₀) (N : News h₀ L s.heap ((l, listOf vs.toArray n) :: rest)) (T : Top hd.view_39 LO mean mg mb h₀) (hk : cs.kind = .function) (hrest : ∀ p ∈ rest, p.1 ≠ l)
  (hS : StrsAre vs xs) (hp : pos < xs.length) (hlen : xs.length ≤ 1000) (hdp : dp + 2 < recursionLimit) (hun : un + 16 < cLine)
  (hret : ∀ vs' h' tk', StrsAre vs' (siftup slt xs pos) → Fr h₀ L h' m → News h₀ L h' ((l, listOf vs'.toArray n) :: rest) → Q .none { s with heap := h', toks := tk' }) :
  wpAny (model PySem.Challenge.rw_mr0165_01.row.prog w) (ktrTop dp un gd cn cs L a ccd cl outer) (call (.ref 56) [.ref l, .int (pos : Int) t1]) Q E s := by
  revert X
  k_fill
  intro X
  refine wpAny_call ?_
  k_dflt ktr_enter
  repeat' ((fail_if_success (with_reducible show wpAny _ _ (exec (Stmt.While _ _ _ _) _) _ _ _)); first | (k_unfold; (try dsimp only)) | (k_end; wrow_close) | walk1 | (dsimp only; walk1) | (leave1; walk_say "STEP leave1"; try dsimp only) | fail "no step")
  (rename Fr _ _ _ _ => lF'); (rename News _ _ _ _ => lN')
  rename StrsAre _ _ => hS
  refine ksw_while (σ := List Value × List Str × Nat × Tok × Tok) (fun c => (l, listOf c.1.toArray n) :: rest) (fun c => [(Str.ofString "pos", .int (c.2.2.1 : Int) c.2.2.2.1), (Str.ofString "childpos", .int (2 * (c.2.2.1 : Int) + 1) c.2.2.2.2)]) (fun c => StrsAre c.1 c.2.1) [Str.ofString "rightpos"]
    (fun c => c.2.2.1 < c.2.1.length ∧ c.2.1.length = xs.length ∧ suLoop slt c.2.1 c.2.2.1 (2 * c.2.2.1 + 1) = suLoop slt xs pos (2 * pos + 1)) (fun c => xs.length - c.2.2.1) (vs, xs, pos, t1, _) lF' lN' hS (by kst_all) ⟨hp, rfl, rfl⟩ ?_
  clear lF' lN' hS
  rintro ⟨vs1, xs1, p1, tk1, tk3⟩ u h1 tk2 hf1 ⟨hp1, hl1, he1⟩ F1 N1
  dsimp only [kstB] at hf1 hp1 hl1 he1 F1 N1 ⊢
  k_fold
  repeat' ((fail_if_success (with_reducible show KswEnd _ _ _ _ _ _ _ _ _ _ _ _)); first | (k_unfold; (try dsimp only)) | (k_end; wrow_close) | walk1 | (dsimp only; walk1) | (leave1; walk_say "STEP leave1"; try dsimp only) | fail "no step")
  · (rename News _ _ _ _ => nE); (rename StrsAre (List.set _ _ _) _ => hs); (rename Fr _ _ _ _ => fE); (rename (LT.lt (α := List Nat) _ _) => hlt)
    refine ksw_end (_, _, 2 * p1 + 1, _, _) fE nE (fun p hp => hp) hs (by kst_all) (by ksw_same) ⟨?_, ?_, ?_⟩ ?_
    · show 2 * p1 + 1 < (List.set _ _ _).length
      rw [List.length_set]; omega
    · show (List.set _ _ _).length = _
      rw [List.length_set]; exact hl1
    · rw [← he1, suLoop_step (lt := slt) (h := xs1) (p := p1) (c := 2 * p1 + 1) (by omega) (pick_l (.inr (decide_eq_true hlt)))]
      rfl
    · show xs.length - (2 * p1 + 1) < xs.length - p1
      omega
  · (rename News _ _ _ _ => nE); (rename StrsAre (List.set _ _ _) _ => hs); (rename Fr _ _ _ _ => fE); (rename (¬ LT.lt (α := List Nat) _ _) => hlt)
    refine ksw_end (_, _, 2 * p1 + 1 + 1, _, _) fE nE (fun p hp => hp) hs (by kst_all) (by ksw_same) ⟨?_, ?_, ?_⟩ ?_
    · show 2 * p1 + 1 + 1 < (List.set _ _ _).length
      rw [List.length_set]; omega
    · show (List.set _ _ _).length = _
      rw [List.length_set]; exact hl1
    · rw [← he1, suLoop_step (lt := slt) (h := xs1) (p := p1) (c := 2 * p1 + 1 + 1) (by omega) (pick_r (by omega) (decide_eq_false hlt))]
      rfl
    · show xs.length - (2 * p1 + 1 + 1) < xs.length - p1
      omega
  · (rename News _ _ _ _ => nE); (rename StrsAre (List.set _ _ _) _ => hs); (rename Fr _ _ _ _ => fE)
    refine ksw_end (_, _, 2 * p1 + 1, _, _) fE nE (fun p hp => hp) hs (by kst_all) (by ksw_same) ⟨?_, ?_, ?_⟩ ?_
    · show 2 * p1 + 1 < (List.set _ _ _).length
      rw [List.length_set]; omega
    · show (List.set _ _ _).length = _
      rw [List.length_set]; exact hl1
    · rw [← he1, suLoop_step (lt := slt) (h := xs1) (p := p1) (c := 2 * p1 + 1) (by omega) (pick_l (.inl (by omega)))]
      rfl
    · show xs.length - (2 * p1 + 1) < xs.length - p1
      omega
  · (rename News h₀ _ _ _ => nE); (rename StrsAre _ (siftdown _ _ _ _) => hs); (rename Fr h₀ _ _ _ => fE)
    refine hret _ _ _ ?_ fE nE
    have he2 := suLoop_end (lt := slt) (h := xs1) (pos := p1) (child := 2 * p1 + 1) (by omega)
    rw [he1] at he2
    unfold siftup
    rw [he2]
    exact hs
theorem su_max {w : World} {mean : ExcName → Option Value} {mg mb : Str → Option Value} {dp un : Nat} {gd : Option (List Code)} {cn : Str} {cs : Scope} {a : Addr} {ccd : Value} {cl : List (Str × Addr)} {outer : List Env} {A₀ : Around} {base h₀ : Heap} {L : Addr} {m : Str → Option Value} {s : Shared} {Q E : Value → Shared → Prop}
  {l : Addr} {vs : List Value} {xs : List Str} {n : Nat} {rest : List (Addr × Obj)} {pos : Nat} {t1 : Tok}
  (B : Below A₀ base outer h₀) (F : Fr h₀ L s.heap m) (X : (hd.heap_39 w.params).In h₀) (N : News h₀ L s.heap ((l, listOf vs.toArray n) :: rest)) (T : Top hd.view_39 LO mean mg mb h₀) (hk : cs.kind = .function) (hrest : ∀ p ∈ rest, p.1 ≠ l)
  (hS : StrsAre vs xs) (hp : pos < xs.length) (hlen : xs.length ≤ 1000) (hdp : dp + 2 < recursionLimit) (hun : un + 16 < cLine)
  (hret : ∀ vs' h' tk', StrsAre vs' (siftup sgt xs pos) → Fr h₀ L h' m → News h₀ L h' ((l, listOf vs'.toArray n) :: rest) → Q .none { s with heap := h', toks := tk' }) :
  wpAny (model PySem.Challenge.rw_mr0165_01.row.prog w) (ktrTop dp un gd cn cs L a ccd cl outer) (call (.ref 70) [.ref l, .int (pos : Int) t1]) Q E s := by
  revert X
  k_fill
  intro X
  refine wpAny_call ?_
  k_dflt ktr_enter
  repeat' ((fail_if_success (with_reducible show wpAny _ _ (exec (Stmt.While _ _ _ _) _) _ _ _)); first | (k_unfold; (try dsimp only)) | (k_end; wrow_close) | walk1 | (dsimp only; walk1) | (leave1; walk_say "STEP leave1"; try dsimp only) | fail "no step")
  (rename Fr _ _ _ _ => lF'); (rename News _ _ _ _ => lN')
  rename StrsAre _ _ => hS
  refine ksw_while (σ := List Value × List Str × Nat × Tok × Tok) (fun c => (l, listOf c.1.toArray n) :: rest) (fun c => [(Str.ofString "pos", .int (c.2.2.1 : Int) c.2.2.2.1), (Str.ofString "childpos", .int (2 * (c.2.2.1 : Int) + 1) c.2.2.2.2)]) (fun c => StrsAre c.1 c.2.1) [Str.ofString "rightpos"]
    (fun c => c.2.2.1 < c.2.1.length ∧ c.2.1.length = xs.length ∧ suLoop sgt c.2.1 c.2.2.1 (2 * c.2.2.1 + 1) = suLoop sgt xs pos (2 * pos + 1)) (fun c => xs.length - c.2.2.1) (vs, xs, pos, t1, _) lF' lN' hS (by kst_all) ⟨hp, rfl, rfl⟩ ?_
  clear lF' lN' hS
  rintro ⟨vs1, xs1, p1, tk1, tk3⟩ u h1 tk2 hf1 ⟨hp1, hl1, he1⟩ F1 N1
  dsimp only [kstB] at hf1 hp1 hl1 he1 F1 N1 ⊢
  k_fold
  repeat' ((fail_if_success (with_reducible show KswEnd _ _ _ _ _ _ _ _ _ _ _ _)); first | (k_unfold; (try dsimp only)) | (k_end; wrow_close) | walk1 | (dsimp only; walk1) | (leave1; walk_say "STEP leave1"; try dsimp only) | fail "no step")
  · (rename News _ _ _ _ => nE); (rename StrsAre (List.set _ _ _) _ => hs); (rename Fr _ _ _ _ => fE); (rename (LT.lt (α := List Nat) _ _) => hlt)
    refine ksw_end (_, _, 2 * p1 + 1, _, _) fE nE (fun p hp => hp) hs (by kst_all) (by ksw_same) ⟨?_, ?_, ?_⟩ ?_
    · show 2 * p1 + 1 < (List.set _ _ _).length
      rw [List.length_set]; omega
    · show (List.set _ _ _).length = _
      rw [List.length_set]; exact hl1
    · rw [← he1, suLoop_step (lt := sgt) (h := xs1) (p := p1) (c := 2 * p1 + 1) (by omega) (pick_l (.inr (decide_eq_true hlt)))]
      rfl
    · show xs.length - (2 * p1 + 1) < xs.length - p1
      omega
  · (rename News _ _ _ _ => nE); (rename StrsAre (List.set _ _ _) _ => hs); (rename Fr _ _ _ _ => fE); (rename (¬ LT.lt (α := List Nat) _ _) => hlt)
    refine ksw_end (_, _, 2 * p1 + 1 + 1, _, _) fE nE (fun p hp => hp) hs (by kst_all) (by ksw_same) ⟨?_, ?_, ?_⟩ ?_
    · show 2 * p1 + 1 + 1 < (List.set _ _ _).length
      rw [List.length_set]; omega
    · show (List.set _ _ _).length = _
      rw [List.length_set]; exact hl1
    · rw [← he1, suLoop_step (lt := sgt) (h := xs1) (p := p1) (c := 2 * p1 + 1 + 1) (by omega) (pick_r (by omega) (decide_eq_false hlt))]
      rfl
    · show xs.length - (2 * p1 + 1 + 1) < xs.length - p1
      omega
  · (rename News _ _ _ _ => nE); (rename StrsAre (List.set _ _ _) _ => hs); (rename Fr _ _ _ _ => fE)
    refine ksw_end (_, _, 2 * p1 + 1, _, _) fE nE (fun p hp => hp) hs (by kst_all) (by ksw_same) ⟨?_, ?_, ?_⟩ ?_
    · show 2 * p1 + 1 < (List.set _ _ _).length
      rw [List.length_set]; omega
    · show (List.set _ _ _).length = _
      rw [List.length_set]; exact hl1
    · rw [← he1, suLoop_step (lt := sgt) (h := xs1) (p := p1) (c := 2 * p1 + 1) (by omega) (pick_l (.inl (by omega)))]
      rfl
    · show xs.length - (2 * p1 + 1) < xs.length - p1
      omega
  · (rename News h₀ _ _ _ => nE); (rename StrsAre _ (siftdown _ _ _ _) => hs); (rename Fr h₀ _ _ _ => fE)
    refine hret _ _ _ ?_ fE nE
    have he2 := suLoop_end (lt := sgt) (h := xs1) (pos := p1) (child := 2 * p1 + 1) (by omega)
    rw [he1] at he2
    unfold siftup
    rw [he2]
    exact hs
theorem su_min_k {w : World} {mean : ExcName → Option Value} {mg mb : Str → Option Value} {dp un : Nat} {gd : Option (List Code)} {cn : Str} {cs : Scope} {a : Addr} {ccd : Value} {cl : List (Str × Addr)} {outer : List Env} {A₀ : Around} {base h₀ : Heap} {L : Addr} {m : Str → Option Value} {s : Shared} {Q E : Value → Shared → Prop}
  {l : Addr} {vs : List Value} {xs : List Str} {n : Nat} {rest : List (Addr × Obj)} {k : Int} {t1 : Tok}
  (B : Below A₀ base outer h₀) (F : Fr h₀ L s.heap m) (X : (hd.heap_39 w.params).In h₀) (N : News h₀ L s.heap ((l, listOf vs.toArray n) :: rest)) (T : Top hd.view_39 LO mean mg mb h₀) (hk : cs.kind = .function) (hrest : ∀ p ∈ rest, p.1 ≠ l)
  (hS : StrsAre vs xs) (h0 : 0 ≤ k) (hp : k < (xs.length : Int)) (hlen : xs.length ≤ 1000) (hdp : dp + 2 < recursionLimit) (hun : un + 16 < cLine)
  (hret : ∀ vs' h' tk', StrsAre vs' (siftup slt xs k.toNat) → Fr h₀ L h' m → News h₀ L h' ((l, listOf vs'.toArray n) :: rest) → Q .none { s with heap := h', toks := tk' }) :
  wpAny (model PySem.Challenge.rw_mr0165_01.row.prog w) (ktrTop dp un gd cn cs L a ccd cl outer) (call (.ref 56) [.ref l, .int k t1]) Q E s := by
  obtain ⟨p, rfl⟩ := Int.eq_ofNat_of_zero_le h0
  exact su_min B F X N T hk hrest hS (by omega) hlen hdp hun hret
theorem su_max_k {w : World} {mean : ExcName → Option Value} {mg mb : Str → Option Value} {dp un : Nat} {gd : Option (List Code)} {cn : Str} {cs : Scope} {a : Addr} {ccd : Value} {cl : List (Str × Addr)} {outer : List Env} {A₀ : Around} {base h₀ : Heap} {L : Addr} {m : Str → Option Value} {s : Shared} {Q E : Value → Shared → Prop}
  {l : Addr} {vs : List Value} {xs : List Str} {n : Nat} {rest : List (Addr × Obj)} {k : Int} {t1 : Tok}
  (B : Below A₀ base outer h₀) (F : Fr h₀ L s.heap m) (X : (hd.heap_39 w.params).In h₀) (N : News h₀ L s.heap ((l, listOf vs.toArray n) :: rest)) (T : Top hd.view_39 LO mean mg mb h₀) (hk : cs.kind = .function) (hrest : ∀ p ∈ rest, p.1 ≠ l)
  (hS : StrsAre vs xs) (h0 : 0 ≤ k) (hp : k < (xs.length : Int)) (hlen : xs.length ≤ 1000) (hdp : dp + 2 < recursionLimit) (hun : un + 16 < cLine)
  (hret : ∀ vs' h' tk', StrsAre vs' (siftup sgt xs k.toNat) → Fr h₀ L h' m → News h₀ L h' ((l, listOf vs'.toArray n) :: rest) → Q .none { s with heap := h', toks := tk' }) :
  wpAny (model PySem.Challenge.rw_mr0165_01.row.prog w) (ktrTop dp un gd cn cs L a ccd cl outer) (call (.ref 70) [.ref l, .int k t1]) Q E s := by
  obtain ⟨p, rfl⟩ := Int.eq_ofNat_of_zero_le h0
  exact su_max B F X N T hk hrest hS (by omega) hlen hdp hun hret
end Mine
end
section
open PySem PySem.W PyProof.Rows
namespace Mine
local macro_rules | `(tactic| walk_at "setItem ref int") => `(tactic| (k_here; (with_reducible show wpAny _ _ (setItem (Value.ref _) (Value.int _ _) (Value.str _ _)) _ _ _); k_dflt (refine' sset ?k1 ?k2 ?k3 ?k4 ?k5 ?k6 ?k7 ?_; (case k1 => k_asm); (case k2 => k_asm); (case k3 => k_upd); (case k4 => with_reducible assumption); (case k5 => ksa_idx); (case k6 => ksa_idx); (case k7 => ksa_idx); k_whole); intro h' F' N' hi' hl'; (try k_sweep)))
local macro_rules | `(tactic| walk_at "binaryOp RShift int int") => `(tactic| refine shr1 (by omega) ?_)
local macro_rules | `(tactic| k_all) => `(tactic| assumption)
local macro_rules | `(tactic| walk_at "truthy ref") => `(tactic| (k_here; k_dflt (refine' struthy ?N ?m ?i ?z ?_; (case N => k_asm); (case m => k_mem); (case i => with_reducible assumption); (case z => ((try simp only [List.length_dropLast]); omega)))))
local macro_rules | `(tactic| walk_at "call builtin:list.pop") => `(tactic| (k_here; (with_reducible show wpAny _ _ (call (Value.builtin _) [Value.ref _]) _ _ _); k_dflt (refine' spop ?F ?N ?U ?i ?l ?z ?_; (case F => k_asm); (case N => k_asm); (case U => k_upd); (case i => with_reducible assumption); (case l => omega); (case z => omega)); (intro h' t' F' N' hI'; (try dsimp only [List.nil_append, List.cons_append] at N'))))
local macro_rules | `(tactic| walk_at "call ref") => `(tactic| (k_here; (with_reducible show wpAny _ _ (call (Value.ref 56) _) _ _ _); k_dflt (refine' su_min_k ?kB ?kF ?kX ?kN ?kT ?kk ?kr ?kS ?k0 ?kp ?kl ?kd ?ku ?_; (case kB => k_asm); (case kF => k_asm); (case kX => k_asm); (case kN => k_asm); (case kT => k_asm); (case kk => first | exact rfl | assumption); (case kr => assumption); (case kS => assumption); (case k0 => omega); (case kp => ((try simp only [List.length_set, List.length_dropLast] at *); omega)); (case kl => ((try simp only [List.length_set, List.length_dropLast] at *); omega)); (case kd => ktr_room); (case ku => ktr_units)); intro vsC hC tkC SC FC NC))
local macro_rules | `(tactic| walk_at "call ref") => `(tactic| (k_here; (with_reducible show wpAny _ _ (call (Value.ref 70) _) _ _ _); k_dflt (refine' su_max_k ?kB ?kF ?kX ?kN ?kT ?kk ?kr ?kS ?k0 ?kp ?kl ?kd ?ku ?_; (case kB => k_asm); (case kF => k_asm); (case kX => k_asm); (case kN => k_asm); (case kT => k_asm); (case kk => first | exact rfl | assumption); (case kr => assumption); (case kS => assumption); (case k0 => omega); (case kp => ((try simp only [List.length_set, List.length_dropLast] at *); omega)); (case kl => ((try simp only [List.length_set, List.length_dropLast] at *); omega)); (case kd => ktr_room); (case ku => ktr_units)); intro vsC hC tkC SC FC NC))
theorem hp_min {w : World} {mean : ExcName → Option Value} {mg mb : Str → Option Value} {dp un : Nat} {gd : Option (List Code)} {cn : Str} {cs : Scope} {a : Addr} {ccd : Value} {cl : List (Str × Addr)} {outer : List Env} {A₀ : Around} {base h₀ : Heap} {L : Addr} {m : Str → Option Value} {s : Shared} {Q E : Value → Shared → Prop}
  {l : Addr} {vs : List Value} {xs : List Str} {n : Nat} {rest : List (Addr × Obj)}
  (B : Below A₀ base outer h₀) (F : Fr h₀ L s.heap m) (X : (hd.heap_39 w.params).In h₀) (N : News h₀ L s.heap ((l, listOf vs.toArray n) :: rest)) (T : Top hd.view_39 LO mean mg mb h₀) (hk : cs.kind = .function) (hrest : ∀ p ∈ rest, p.1 ≠ l)
  (hS : StrsAre vs xs) (hp : 0 < xs.length) (hlen : xs.length ≤ 1000) (hdp : dp + 3 < recursionLimit) (hun : un + 24 < cLine)
  (hret : ∀ t vs' n' h' tk', StrsAre vs' (popRest slt xs) → Fr h₀ L h' m → News h₀ L h' ((l, listOf vs'.toArray n') :: rest) → Q (.str (popTop xs) t) { s with heap := h', toks := tk' }) :
  wpAny (model PySem.Challenge.rw_mr0165_01.row.prog w) (ktrTop dp un gd cn cs L a ccd cl outer) (call (.ref 21) [.ref l]) Q E s := by
  revert X
  k_fill
  intro X
  refine wpAny_call ?_
  k_dflt ktr_enter
  repeat' ((fail_if_success (with_reducible show False)); first | (k_unfold; (try dsimp only)) | (k_end; wrow_close) | walk1 | (dsimp only; walk1) | (leave1; walk_say "STEP leave1"; try dsimp only) | fail "no step")
  · (rename News h₀ _ _ _ => nE); (rename StrsAre _ (siftup _ _ _) => hs); (rename Fr h₀ _ _ _ => fE); (rename (0 < List.length _) => hpos)
    have hpos' : 0 < xs.dropLast.length := by first | exact hpos | simpa using hpos
    simp only [popTop_more hpos', popRest_more hpos'] at hret
    exact hret _ _ _ _ _ hs fE nE
  · (rename News h₀ _ _ _ => nE); (rename StrsAre _ (List.dropLast _) => hs); (rename Fr h₀ _ _ _ => fE); (rename (¬ 0 < List.length _) => hpos)
    have hpos' : ¬ 0 < xs.dropLast.length := by first | exact hpos | simpa using hpos
    simp only [popTop_one hpos', popRest_one hpos'] at hret
    exact hret _ _ _ _ _ hs fE nE
theorem hp_max {w : World} {mean : ExcName → Option Value} {mg mb : Str → Option Value} {dp un : Nat} {gd : Option (List Code)} {cn : Str} {cs : Scope} {a : Addr} {ccd : Value} {cl : List (Str × Addr)} {outer : List Env} {A₀ : Around} {base h₀ : Heap} {L : Addr} {m : Str → Option Value} {s : Shared} {Q E : Value → Shared → Prop}
  {l : Addr} {vs : List Value} {xs : List Str} {n : Nat} {rest : List (Addr × Obj)}
  (B : Below A₀ base outer h₀) (F : Fr h₀ L s.heap m) (X : (hd.heap_39 w.params).In h₀) (N : News h₀ L s.heap ((l, listOf vs.toArray n) :: rest)) (T : Top hd.view_39 LO mean mg mb h₀) (hk : cs.kind = .function) (hrest : ∀ p ∈ rest, p.1 ≠ l)
  (hS : StrsAre vs xs) (hp : 0 < xs.length) (hlen : xs.length ≤ 1000) (hdp : dp + 3 < recursionLimit) (hun : un + 24 < cLine)
  (hret : ∀ t vs' n' h' tk', StrsAre vs' (popRest sgt xs) → Fr h₀ L h' m → News h₀ L h' ((l, listOf vs'.toArray n') :: rest) → Q (.str (popTop xs) t) { s with heap := h', toks := tk' }) :
  wpAny (model PySem.Challenge.rw_mr0165_01.row.prog w) (ktrTop dp un gd cn cs L a ccd cl outer) (call (.ref 35) [.ref l]) Q E s := by
  revert X
  k_fill
  intro X
  refine wpAny_call ?_
  k_dflt ktr_enter
  repeat' ((fail_if_success (with_reducible show False)); first | (k_unfold; (try dsimp only)) | (k_end; wrow_close) | walk1 | (dsimp only; walk1) | (leave1; walk_say "STEP leave1"; try dsimp only) | fail "no step")
  · (rename News h₀ _ _ _ => nE); (rename StrsAre _ (siftup _ _ _) => hs); (rename Fr h₀ _ _ _ => fE); (rename (0 < List.length _) => hpos)
    have hpos' : 0 < xs.dropLast.length := by first | exact hpos | simpa using hpos
    simp only [popTop_more hpos', popRest_more hpos'] at hret
    exact hret _ _ _ _ _ hs fE nE
  · (rename News h₀ _ _ _ => nE); (rename StrsAre _ (List.dropLast _) => hs); (rename Fr h₀ _ _ _ => fE); (rename (¬ 0 < List.length _) => hpos)
    have hpos' : ¬ 0 < xs.dropLast.length := by first | exact hpos | simpa using hpos
    simp only [popTop_one hpos', popRest_one hpos'] at hret
    exact hret _ _ _ _ _ hs fE nE
end Mine
end
section
open PySem PySem.W PyProof.Rows
namespace Mine
local macro_rules | `(tactic| walk_at "setItem ref int") => `(tactic| (k_here; (with_reducible show wpAny _ _ (setItem (Value.ref _) (Value.int _ _) (Value.str _ _)) _ _ _); k_dflt (refine' sset ?k1 ?k2 ?k3 ?k4 ?k5 ?k6 ?k7 ?_; (case k1 => k_asm); (case k2 => k_asm); (case k3 => k_upd); (case k4 => with_reducible assumption); (case k5 => ksa_idx); (case k6 => ksa_idx); (case k7 => ksa_idx); k_whole); intro h' F' N' hi' hl'; (try k_sweep)))
local macro_rules | `(tactic| walk_at "binaryOp RShift int int") => `(tactic| refine shr1 (by omega) ?_)
local macro_rules | `(tactic| k_all) => `(tactic| assumption)
local macro_rules | `(tactic| walk_at "binaryOp FloorDiv int int") => `(tactic| refine fdiv2 ?_)
local macro_rules | `(tactic| walk_at "call ref") => `(tactic| (k_here; (with_reducible show wpAny _ _ (call (Value.ref 56) _) _ _ _); k_dflt (refine' su_min_k ?kB ?kF ?kX ?kN ?kT ?kk ?kr ?kS ?k0 ?kp ?kl ?kd ?ku ?_; (case kB => k_asm); (case kF => k_asm); (case kX => k_asm); (case kN => k_asm); (case kT => k_asm); (case kk => first | exact rfl | assumption); (case kr => assumption); (case kS => assumption); (case k0 => omega); (case kp => ((try simp only [List.length_set, List.length_dropLast] at *); omega)); (case kl => ((try simp only [List.length_set, List.length_dropLast] at *); omega)); (case kd => ktr_room); (case ku => ktr_units)); intro vsC hC tkC SC FC NC))
local macro_rules | `(tactic| walk_at "call ref") => `(tactic| (k_here; (with_reducible show wpAny _ _ (call (Value.ref 70) _) _ _ _); k_dflt (refine' su_max_k ?kB ?kF ?kX ?kN ?kT ?kk ?kr ?kS ?k0 ?kp ?kl ?kd ?ku ?_; (case kB => k_asm); (case kF => k_asm); (case kX => k_asm); (case kN => k_asm); (case kT => k_asm); (case kk => first | exact rfl | assumption); (case kr => assumption); (case kS => assumption); (case k0 => omega); (case kp => ((try simp only [List.length_set, List.length_dropLast] at *); omega)); (case kl => ((try simp only [List.length_set, List.length_dropLast] at *); omega)); (case kd => ktr_room); (case ku => ktr_units)); intro vsC hC tkC SC FC NC))
theorem hf_min {w : World} {mean : ExcName → Option Value} {mg mb : Str → Option Value} {dp un : Nat} {gd : Option (List Code)} {cn : Str} {cs : Scope} {a : Addr} {ccd : Value} {cl : List (Str × Addr)} {outer : List Env} {A₀ : Around} {base h₀ : Heap} {L : Addr} {m : Str → Option Value} {s : Shared} {Q E : Value → Shared → Prop}
  {l : Addr} {vs : List Value} {xs : List Str} {n : Nat} {rest : List (Addr × Obj)}
  (B : Below A₀ base outer h₀) (F : Fr h₀ L s.heap m) (X : (hd.heap_39 w.params).In h₀) (N : News h₀ L s.heap ((l, listOf vs.toArray n) :: rest)) (T : Top hd.view_39 LO mean mg mb h₀) (hk : cs.kind = .function) (hrest : ∀ p ∈ rest, p.1 ≠ l)
  (hS : StrsAre vs xs) (hlen : xs.length ≤ 1000) (hdp : dp + 3 < recursionLimit) (hun : un + 24 < cLine)
  (hret : ∀ vs' h' tk', StrsAre vs' (heapify slt xs) → Fr h₀ L h' m → News h₀ L h' ((l, listOf vs'.toArray n) :: rest) → Q .none { s with heap := h', toks := tk' }) :
  wpAny (model PySem.Challenge.rw_mr0165_01.row.prog w) (ktrTop dp un gd cn cs L a ccd cl outer) (call (.ref 28) [.ref l]) Q E s := by
  revert X
  k_fill
  intro X
  refine wpAny_call ?_
  k_dflt ktr_enter
  repeat' ((fail_if_success (with_reducible show wpAny _ _ (call (Value.type "reversed") _) _ _ _)); first | (k_unfold; (try dsimp only)) | (k_end; wrow_close) | walk1 | (dsimp only; walk1) | (leave1; walk_say "STEP leave1"; try dsimp only) | fail "no step")
  (rename IsRange _ _ _ _ _ _ _ _ => hR); (rename Fr _ _ _ _ => lF); (rename News _ _ _ _ => lN); (rename StrsAre _ _ => hS)
  refine rev_range lF lN hR (by omega) ?_
  intro D hD FD ND lD
  clear lF lN hR
  have hI := ND _ (List.mem_cons_self ..)
  refine wpAny_pyIter_rangeiter hI.1 ?_
  obtain ⟨M, FD, hMx⟩ : ∃ M, Fr _ _ hD M ∧ M (Str.ofString "x") = some (.ref l) := ⟨_, FD, rfl⟩
  refine loop_invN (news := (l, listOf vs.toArray n) :: rest) (fun i m₁ nx => (∃ vs1 xs1, nx = (l, listOf vs1.toArray n) :: rest ∧ StrsAre vs1 xs1 ∧ xs1.length = xs.length ∧ hfy slt (xs.length / 2 - i) xs1 = heapify slt xs) ∧ m₁ (Str.ofString "x") = some (.ref l)) (Walks.range rfl D (((xs.length / 2 : Nat) : Int) - 1) (-1) (xs.length / 2)) ?_ ?_ ?_ ?_ ?_ FD (fun p hp => ND p (List.mem_cons_of_mem _ hp)) ⟨⟨vs, xs, rfl, hS, rfl, rfl⟩, hMx⟩ ?_ ?_
  · intro hm
    exact hI.2.1 (List.mem_singleton.mp hm).symm
  · intro b hb
    rw [List.mem_singleton.mp hb]; exact hI.2.2
  · intro p hp hm
    exact Nat.lt_irrefl _ ((List.mem_singleton.mp hm) ▸ lD p hp)
  · intro p hp hm
    exact Nat.lt_irrefl _ ((List.mem_singleton.mp hm) ▸ lD p hp)
  · have e := hI.1
    simpa using e
  · clear FD ND hI lD hS hMx
    rintro i v m₁ news₁ h tk own hi ⟨t, rfl⟩ hadr hoff ⟨⟨vs1, xs1, rfl, hS1, hl1, he1⟩, hmx⟩ F1 N1
    have em : (fun y => if y = Str.ofString "i" then some (Value.int (((xs.length / 2 : Nat) : Int) - 1 + (i : Int) * -1) t) else m₁ y) = (fun y => if y = Str.ofString "i" then some (Value.int ((xs.length / 2 - 1 - i : Nat) : Int) t) else if y = Str.ofString "x" then some (.ref l) else m₁ y) := by
      funext y
      by_cases h1 : y = Str.ofString "i"
      · rw [if_pos h1, if_pos h1]; congr 2; omega
      · rw [if_neg h1, if_neg h1]
        by_cases h2 : y = Str.ofString "x"
        · rw [if_pos h2, h2]; exact hmx
        · rw [if_neg h2]
    rw [em] at F1
    have N2 : News _ _ h ((l, listOf vs1.toArray n) :: (rest ++ own)) := N1
    clear N1
    have hrest2 : ∀ p ∈ rest ++ own, p.1 ≠ l := by
      intro p hp
      rcases List.mem_append.mp hp with q | q
      · exact hrest p q
      · exact hoff p q l (List.mem_cons_self ..)
    show wpAny _ _ (execs _ _) _ _ _
    (try k_fold)
    repeat' ((fail_if_success (with_reducible show InvEndN _ _ _ _ _ _ _)); first | (k_unfold; (try dsimp only)) | (k_end; wrow_close) | walk1 | (dsimp only; walk1) | (leave1; walk_say "STEP leave1"; try dsimp only) | fail "no step")
    (rename StrsAre _ (siftup _ _ _) => hs); (rename News _ _ _ _ => nE); (rename Fr _ _ _ _ => fE)
    refine InvEndN.intro (nx := (l, listOf _ n) :: rest) fE nE ⟨⟨_, _, rfl, hs, ?_, ?_⟩, rfl⟩ rfl ?_ ?_
    · rw [siftup_length]; exact hl1
    · rw [← he1, show xs.length / 2 - i = (xs.length / 2 - (i + 1)) + 1 by omega]
      show _ = hfy _ _ (siftup _ xs1 _)
      congr 2
      show xs.length / 2 - 1 - i = _
      omega
    · intro p hp
      rcases List.mem_cons.mp hp with q | q
      · exact List.mem_cons.mpr (.inl q)
      · exact List.mem_cons.mpr (.inr (List.mem_append.mpr (.inl q)))
    · intro p hp
      exact List.mem_cons.mpr (.inr (List.mem_append.mpr (.inr hp)))
  · rintro m₁ nx h tk ⟨⟨vs1, xs1, rfl, hS1, hl1, he1⟩, hmx⟩ F1 N1
    rw [Nat.sub_self] at he1
    have e : xs1 = heapify slt xs := he1
    subst e
    k_steps
    (rename News h₀ _ _ _ => nE); (rename Fr h₀ _ _ _ => fE)
    exact hret _ _ _ hS1 fE nE
theorem hf_max {w : World} {mean : ExcName → Option Value} {mg mb : Str → Option Value} {dp un : Nat} {gd : Option (List Code)} {cn : Str} {cs : Scope} {a : Addr} {ccd : Value} {cl : List (Str × Addr)} {outer : List Env} {A₀ : Around} {base h₀ : Heap} {L : Addr} {m : Str → Option Value} {s : Shared} {Q E : Value → Shared → Prop}
  {l : Addr} {vs : List Value} {xs : List Str} {n : Nat} {rest : List (Addr × Obj)}
  (B : Below A₀ base outer h₀) (F : Fr h₀ L s.heap m) (X : (hd.heap_39 w.params).In h₀) (N : News h₀ L s.heap ((l, listOf vs.toArray n) :: rest)) (T : Top hd.view_39 LO mean mg mb h₀) (hk : cs.kind = .function) (hrest : ∀ p ∈ rest, p.1 ≠ l)
  (hS : StrsAre vs xs) (hlen : xs.length ≤ 1000) (hdp : dp + 3 < recursionLimit) (hun : un + 24 < cLine)
  (hret : ∀ vs' h' tk', StrsAre vs' (heapify sgt xs) → Fr h₀ L h' m → News h₀ L h' ((l, listOf vs'.toArray n) :: rest) → Q .none { s with heap := h', toks := tk' }) :
  wpAny (model PySem.Challenge.rw_mr0165_01.row.prog w) (ktrTop dp un gd cn cs L a ccd cl outer) (call (.ref 42) [.ref l]) Q E s := by
  revert X
  k_fill
  intro X
  refine wpAny_call ?_
  k_dflt ktr_enter
  repeat' ((fail_if_success (with_reducible show wpAny _ _ (call (Value.type "reversed") _) _ _ _)); first | (k_unfold; (try dsimp only)) | (k_end; wrow_close) | walk1 | (dsimp only; walk1) | (leave1; walk_say "STEP leave1"; try dsimp only) | fail "no step")
  (rename IsRange _ _ _ _ _ _ _ _ => hR); (rename Fr _ _ _ _ => lF); (rename News _ _ _ _ => lN); (rename StrsAre _ _ => hS)
  refine rev_range lF lN hR (by omega) ?_
  intro D hD FD ND lD
  clear lF lN hR
  have hI := ND _ (List.mem_cons_self ..)
  refine wpAny_pyIter_rangeiter hI.1 ?_
  obtain ⟨M, FD, hMx⟩ : ∃ M, Fr _ _ hD M ∧ M (Str.ofString "x") = some (.ref l) := ⟨_, FD, rfl⟩
  refine loop_invN (news := (l, listOf vs.toArray n) :: rest) (fun i m₁ nx => (∃ vs1 xs1, nx = (l, listOf vs1.toArray n) :: rest ∧ StrsAre vs1 xs1 ∧ xs1.length = xs.length ∧ hfy sgt (xs.length / 2 - i) xs1 = heapify sgt xs) ∧ m₁ (Str.ofString "x") = some (.ref l)) (Walks.range rfl D (((xs.length / 2 : Nat) : Int) - 1) (-1) (xs.length / 2)) ?_ ?_ ?_ ?_ ?_ FD (fun p hp => ND p (List.mem_cons_of_mem _ hp)) ⟨⟨vs, xs, rfl, hS, rfl, rfl⟩, hMx⟩ ?_ ?_
  · intro hm
    exact hI.2.1 (List.mem_singleton.mp hm).symm
  · intro b hb
    rw [List.mem_singleton.mp hb]; exact hI.2.2
  · intro p hp hm
    exact Nat.lt_irrefl _ ((List.mem_singleton.mp hm) ▸ lD p hp)
  · intro p hp hm
    exact Nat.lt_irrefl _ ((List.mem_singleton.mp hm) ▸ lD p hp)
  · have e := hI.1
    simpa using e
  · clear FD ND hI lD hS hMx
    rintro i v m₁ news₁ h tk own hi ⟨t, rfl⟩ hadr hoff ⟨⟨vs1, xs1, rfl, hS1, hl1, he1⟩, hmx⟩ F1 N1
    have em : (fun y => if y = Str.ofString "i" then some (Value.int (((xs.length / 2 : Nat) : Int) - 1 + (i : Int) * -1) t) else m₁ y) = (fun y => if y = Str.ofString "i" then some (Value.int ((xs.length / 2 - 1 - i : Nat) : Int) t) else if y = Str.ofString "x" then some (.ref l) else m₁ y) := by
      funext y
      by_cases h1 : y = Str.ofString "i"
      · rw [if_pos h1, if_pos h1]; congr 2; omega
      · rw [if_neg h1, if_neg h1]
        by_cases h2 : y = Str.ofString "x"
        · rw [if_pos h2, h2]; exact hmx
        · rw [if_neg h2]
    rw [em] at F1
    have N2 : News _ _ h ((l, listOf vs1.toArray n) :: (rest ++ own)) := N1
    clear N1
    have hrest2 : ∀ p ∈ rest ++ own, p.1 ≠ l := by
      intro p hp
      rcases List.mem_append.mp hp with q | q
      · exact hrest p q
      · exact hoff p q l (List.mem_cons_self ..)
    show wpAny _ _ (execs _ _) _ _ _
    (try k_fold)
    repeat' ((fail_if_success (with_reducible show InvEndN _ _ _ _ _ _ _)); first | (k_unfold; (try dsimp only)) | (k_end; wrow_close) | walk1 | (dsimp only; walk1) | (leave1; walk_say "STEP leave1"; try dsimp only) | fail "no step")
    (rename StrsAre _ (siftup _ _ _) => hs); (rename News _ _ _ _ => nE); (rename Fr _ _ _ _ => fE)
    refine InvEndN.intro (nx := (l, listOf _ n) :: rest) fE nE ⟨⟨_, _, rfl, hs, ?_, ?_⟩, rfl⟩ rfl ?_ ?_
    · rw [siftup_length]; exact hl1
    · rw [← he1, show xs.length / 2 - i = (xs.length / 2 - (i + 1)) + 1 by omega]
      show _ = hfy _ _ (siftup _ xs1 _)
      congr 2
      show xs.length / 2 - 1 - i = _
      omega
    · intro p hp
      rcases List.mem_cons.mp hp with q | q
      · exact List.mem_cons.mpr (.inl q)
      · exact List.mem_cons.mpr (.inr (List.mem_append.mpr (.inl q)))
    · intro p hp
      exact List.mem_cons.mpr (.inr (List.mem_append.mpr (.inr hp)))
  · rintro m₁ nx h tk ⟨⟨vs1, xs1, rfl, hS1, hl1, he1⟩, hmx⟩ F1 N1
    rw [Nat.sub_self] at he1
    have e : xs1 = heapify sgt xs := he1
    subst e
    k_steps
    (rename News h₀ _ _ _ => nE); (rename Fr h₀ _ _ _ => fE)
    exact hret _ _ _ hS1 fE nE
end Mine
end
section
open PySem PySem.W PyProof.Rows
namespace Mine
def hd1 (x : Str) : Str := Txt.slice x none (some 1)
def tl1 (x : Str) : Str := Txt.slice x (some 1) none
def up1 (k : Str) : Str := if Str.ofString "a" == k then Str.ofString "A" else if Str.ofString "b" == k then Str.ofString "B" else k
def great (x : Str) : Str := up1 (hd1 x) ++ tl1 x
def kindI (x : Str) : Int := if ([Str.ofString "a", Str.ofString "b"].any fun y => y == hd1 x) = true then 1 else if ([Str.ofString "^", Str.ofString "_"].any fun y => y == hd1 x) = true then 2 else if (hd1 x == Str.ofString "~") = true then 3 else 0
theorem great_flat {v : Value} {k : Str} {t1 t2 t3 t4 : Tok} (h : PyProof.V.Flat v ((Spec.lookup (PyData.str k) (strData [(Value.str (Str.ofString "a") t1, Value.str (Str.ofString "A") t2), (Value.str (Str.ofString "b") t3, Value.str (Str.ofString "B") t4)])).getD (PyData.str k))) : ∃ t, v = .str (up1 k) t := by
  refine PyProof.V.Flat.str_inv (x := up1 k) ?_
  unfold up1
  simp only [strData, Spec.lookup, datumOf, Option.getD_some] at h
  have e1 : Spec.same (PyData.str (Str.ofString "a")) (PyData.str k) = (Str.ofString "a" == k) := rfl
  have e2 : Spec.same (PyData.str (Str.ofString "b")) (PyData.str k) = (Str.ofString "b" == k) := rfl
  rw [e1, e2] at h
  split
  · rename_i q; rw [if_pos q] at h; exact h
  · rename_i q; rw [if_neg q] at h
    split
    · rename_i q2; rw [if_pos q2] at h; exact h
    · rename_i q2; rw [if_neg q2] at h; exact h
theorem up1_length (k : Str) : (up1 k).length ≤ k.length + 1 := by
  unfold up1
  split
  · exact Nat.le_add_left 1 _
  · split
    · exact Nat.le_add_left 1 _
    · exact Nat.le_succ _
theorem lgreat {w : World} {mean : ExcName → Option Value} {mg mb : Str → Option Value} {dp un : Nat} {gd : Option (List Code)} {cn : Str} {cs : Scope} {a : Addr} {ccd : Value} {cl : List (Str × Addr)} {outer : List Env} {A₀ : Around} {base h₀ : Heap} {L : Addr} {m : Str → Option Value} {s : Shared} {Q E : Value → Shared → Prop}
  {news : List (Addr × Obj)} {x : Str} {t : Tok}
  (B : Below A₀ base outer h₀) (F : Fr h₀ L s.heap m) (X : (hd.heap_39 w.params).In h₀) (N : News h₀ L s.heap news) (T : Top hd.view_39 LO mean mg mb h₀) (hk : cs.kind = .function)
  (hx : x.length ≤ 1000) (hdp : dp + 3 < recursionLimit) (hun : un + 24 < cLine)
  (hret : ∀ t' h' tk', Fr h₀ L h' m → News h₀ L h' news → Q (.str (great x) t') { s with heap := h', toks := tk' }) :
  wpAny (model PySem.Challenge.rw_mr0165_01.row.prog w) (ktrTop dp un gd cn cs L a ccd cl outer) (call (.ref 90) [.str x t]) Q E s := by
  revert X
  k_fill
  intro X
  refine wpAny_call ?_
  k_dflt ktr_enter
  repeat' ((fail_if_success (with_reducible show wpAny _ _ (binaryOp Operator.Add _ _) _ _ _)); first | (k_unfold; (try dsimp only)) | (k_end; wrow_close) | walk1 | (dsimp only; walk1) | (leave1; walk_say "STEP leave1"; try dsimp only) | fail "no step")
  rename PyProof.V.Flat _ _ => hv
  obtain ⟨tv, rfl⟩ := great_flat hv
  clear hv
  have hul := up1_length (Txt.slice x none (some 1))
  repeat' ((fail_if_success (with_reducible show False)); first | (k_unfold; (try dsimp only)) | (k_end; wrow_close) | walk1 | (dsimp only; walk1) | (leave1; walk_say "STEP leave1"; try dsimp only) | fail "no step")
  (rename Fr h₀ _ _ _ => fE); (rename News h₀ _ _ _ => nE)
  exact hret _ _ _ fE (fun p hp => nE p (List.mem_cons_of_mem _ hp))
theorem lkind {w : World} {mean : ExcName → Option Value} {mg mb : Str → Option Value} {dp un : Nat} {gd : Option (List Code)} {cn : Str} {cs : Scope} {a : Addr} {ccd : Value} {cl : List (Str × Addr)} {outer : List Env} {A₀ : Around} {base h₀ : Heap} {L : Addr} {m : Str → Option Value} {s : Shared} {Q E : Value → Shared → Prop}
  {news : List (Addr × Obj)} {x : Str} {t : Tok}
  (B : Below A₀ base outer h₀) (F : Fr h₀ L s.heap m) (X : (hd.heap_39 w.params).In h₀) (N : News h₀ L s.heap news) (T : Top hd.view_39 LO mean mg mb h₀) (hk : cs.kind = .function)
  (hx : x.length ≤ 1000) (hdp : dp + 3 < recursionLimit) (hun : un + 24 < cLine)
  (hret : ∀ t' h' tk', Fr h₀ L h' m → News h₀ L h' news → Q (.int (kindI x) t') { s with heap := h', toks := tk' }) :
  wpAny (model PySem.Challenge.rw_mr0165_01.row.prog w) (ktrTop dp un gd cn cs L a ccd cl outer) (call (.ref 97) [.str x t]) Q E s := by
  revert X
  k_fill
  intro X
  refine wpAny_call ?_
  k_dflt ktr_enter
  repeat' ((fail_if_success (with_reducible show False)); first | (k_unfold; (try dsimp only)) | (k_end; wrow_close) | walk1 | (dsimp only; walk1) | (leave1; walk_say "STEP leave1"; try dsimp only) | fail "no step")
  · (rename Fr h₀ _ _ _ => fE); (rename News h₀ _ _ _ => nE); (rename (List.any [Str.ofString "a", _] _ = true) => e1)
    have e : kindI x = 1 := by unfold kindI hd1; rw [if_pos e1]
    rw [e] at hret
    exact hret _ _ _ fE (fun p hp => nE p (by simp [hp]))
  · (rename Fr h₀ _ _ _ => fE); (rename News h₀ _ _ _ => nE); (rename (List.any [Str.ofString "a", _] _ = false) => e1); (rename (List.any [Str.ofString "^", _] _ = true) => e2)
    have e : kindI x = 2 := by unfold kindI hd1; rw [if_neg (by rw [e1]; decide), if_pos e2]
    rw [e] at hret
    exact hret _ _ _ fE (fun p hp => nE p (by simp [hp]))
  · (rename Fr h₀ _ _ _ => fE); (rename News h₀ _ _ _ => nE); (rename (List.any [Str.ofString "a", _] _ = false) => e1); (rename (List.any [Str.ofString "^", _] _ = false) => e2); (rename ((_ == Str.ofString "~") = true) => e3)
    have e : kindI x = 3 := by unfold kindI hd1; rw [if_neg (by rw [e1]; decide), if_neg (by rw [e2]; decide), if_pos e3]
    rw [e] at hret
    exact hret _ _ _ fE (fun p hp => nE p (by simp [hp]))
  · (rename Fr h₀ _ _ _ => fE); (rename News h₀ _ _ _ => nE); (rename (List.any [Str.ofString "a", _] _ = false) => e1); (rename (List.any [Str.ofString "^", _] _ = false) => e2); (rename ((_ == Str.ofString "~") = false) => e3)
    have e : kindI x = 0 := by unfold kindI hd1; rw [if_neg (by rw [e1]; decide), if_neg (by rw [e2]; decide), if_neg (by rw [e3]; decide)]
    rw [e] at hret
    exact hret _ _ _ fE (fun p hp => nE p (by simp [hp]))
end Mine
end
section
open PySem PySem.W PyProof.Rows
namespace Mine
abbrev Sign (c : Nat) : Prop := c ∈ [97, 98, 95, 51, 45, 94, 126]
def OneOk (y : Str) : Prop := ∃ c, y = Str.mk #[c] ∧ Sign c
def WordOk (y : Str) : Prop := y.length ≤ 3 ∧ ∀ c ∈ y.cps.toList, Sign c
theorem fd7 {prog : Program} {w : World} {A : Around} {E : Value → Shared → Prop} {s : Shared} {a : Int} {n : Nat} {t u : Tok} {Q : Value → Shared → Prop} (hn : n ≤ 3)
    (h : ∀ b : Int, Q (.int b s.toks) { s with toks := s.toks + 1 }) : wpAny (model prog w) A (binaryOp .FloorDiv (.int a t) (.int (7 ^ n) u)) Q E s := by
  have h7 : n = 0 ∨ n = 1 ∨ n = 2 ∨ n = 3 := by omega
  refine floordiv_int ?_ (h _) (.inl (PyProof.noPylong_small ?_))
  · rcases h7 with rfl | rfl | rfl | rfl <;> decide
  · rcases h7 with rfl | rfl | rfl | rfl <;> decide
theorem item7 {prog : Program} {w : World} {A : Around} {E : Value → Shared → Prop} {s : Shared} {value slice : Expr} {b : Int} {t u : Tok} {Q : Value → Shared → Prop} (h : ∀ y, OneOk y → Q (.str y s.toks) { s with toks := s.toks + 1 })
    (hs : ∀ i, subscripted slice false (.str (Str.ofString "ab_3-^~") t) (.int i u) = operate [.str (Str.ofString "ab_3-^~") t, .int i u] (getItem (.str (Str.ofString "ab_3-^~") t) (.int i u)))
    (ht : ∀ r, letTemporaryGo value (.str (Str.ofString "ab_3-^~") t) r = pure ()) :
    wpAny (model prog w) A (subscriptTail value slice (.str (Str.ofString "ab_3-^~") t) (.int (b.fmod 7) u)) Q E s := by
  have h0 : 0 ≤ b.fmod 7 := by rw [Int.fmod_eq_emod_of_nonneg _ (by decide)]; omega
  have h1 : b.fmod 7 < 7 := by rw [Int.fmod_eq_emod_of_nonneg _ (by decide)]; omega
  generalize b.fmod 7 = i at h0 h1
  have hi : i = 0 ∨ i = 1 ∨ i = 2 ∨ i = 3 ∨ i = 4 ∨ i = 5 ∨ i = 6 := by omega
  rcases hi with rfl | rfl | rfl | rfl | rfl | rfl | rfl
  · exact item_str (by decide) (by decide) (by decide) (fun _ => h _ ⟨97, by decide +kernel, by decide⟩) (hs _) ht
  · exact item_str (by decide) (by decide) (by decide) (fun _ => h _ ⟨98, by decide +kernel, by decide⟩) (hs _) ht
  · exact item_str (by decide) (by decide) (by decide) (fun _ => h _ ⟨95, by decide +kernel, by decide⟩) (hs _) ht
  · exact item_str (by decide) (by decide) (by decide) (fun _ => h _ ⟨51, by decide +kernel, by decide⟩) (hs _) ht
  · exact item_str (by decide) (by decide) (by decide) (fun _ => h _ ⟨45, by decide +kernel, by decide⟩) (hs _) ht
  · exact item_str (by decide) (by decide) (by decide) (fun _ => h _ ⟨94, by decide +kernel, by decide⟩) (hs _) ht
  · exact item_str (by decide) (by decide) (by decide) (fun _ => h _ ⟨126, by decide +kernel, by decide⟩) (hs _) ht
theorem ones_word {cs : List Str} (hl : cs.length ≤ 3) (h : ∀ c ∈ cs, OneOk c) : WordOk (Txt.join (Str.ofString "") cs) := by
  have e : Txt.join (Str.ofString "") cs = Str.join (Str.ofString "") cs := StrLaws.glued_eq_join _ _
  rw [e]
  have he : (Str.ofString "").cps.toList = [] := by decide
  match cs, hl, h with
  | [], _, _ => exact ⟨by decide, fun c hc => nomatch hc⟩
  | [a], _, h =>
    obtain ⟨x, rfl, hx⟩ := h a (by simp)
    refine ⟨by show 1 ≤ 3; decide, ?_⟩
    intro c hc
    have hc' : c ∈ [x] := hc
    rw [List.mem_singleton.mp hc']; exact hx
  | [a, b], _, h =>
    obtain ⟨x, rfl, hx⟩ := h a (by simp)
    obtain ⟨y, rfl, hy⟩ := h b (by simp)
    refine ⟨by show (Str.mk #[x] ++ Str.ofString "" ++ Str.mk #[y]).length ≤ 3; simp only [Str.length_append]; show 1 + 0 + 1 ≤ 3; decide, ?_⟩
    intro c hc
    have hc' : c ∈ (Str.mk #[x] ++ Str.ofString "" ++ Str.mk #[y]).cps.toList := hc
    simp only [Str.cps_append, Array.toList_append, he, List.append_nil, List.nil_append, List.mem_append] at hc'
    rcases hc' with q | q
    · rw [List.mem_singleton.mp q]; exact hx
    · rw [List.mem_singleton.mp q]; exact hy
  | [a, b, d], _, h =>
    obtain ⟨x, rfl, hx⟩ := h a (by simp)
    obtain ⟨y, rfl, hy⟩ := h b (by simp)
    obtain ⟨z, rfl, hz⟩ := h d (by simp)
    refine ⟨by show (Str.mk #[x] ++ Str.ofString "" ++ (Str.mk #[y] ++ Str.ofString "" ++ Str.mk #[z])).length ≤ 3; simp only [Str.length_append]; show 1 + 0 + (1 + 0 + 1) ≤ 3; decide, ?_⟩
    intro c hc
    have hc' : c ∈ (Str.mk #[x] ++ Str.ofString "" ++ (Str.mk #[y] ++ Str.ofString "" ++ Str.mk #[z])).cps.toList := hc
    simp only [Str.cps_append, Array.toList_append, he, List.append_nil, List.nil_append, List.mem_append] at hc'
    rcases hc' with q | q | q
    · rw [List.mem_singleton.mp q]; exact hx
    · rw [List.mem_singleton.mp q]; exact hy
    · rw [List.mem_singleton.mp q]; exact hz
theorem ones_sum : ∀ {cs : List Str}, (∀ c ∈ cs, OneOk c) → (cs.map (·.length)).sum = cs.length
  | [], _ => rfl
  | a :: r, h => by
    obtain ⟨x, rfl, hx⟩ := h a (by simp)
    rw [List.map_cons, List.sum_cons, ones_sum fun c hc => h c (List.mem_cons_of_mem _ hc), List.length_cons]
    show 1 + _ = _
    omega
local macro_rules | `(tactic| walk_at "binaryOp FloorDiv int int") => `(tactic| (refine fd7 (by omega) ?_; intro _))
local macro_rules | `(tactic| walk_at "subscriptTail") => `(tactic| (refine item7 ?_ (by intro _; with_unfolding_all rfl) (by intro _; with_unfolding_all rfl); intro _ _))
local macro_rules | `(tactic| walk_at "eval ListComp") => `(tactic| (k_here; k_dflt (refine LCg.ListComp_U (F₀ := by k_asm) (by with_unfolding_all rfl) (by decide) (by rfl) (by decide) (by rfl) ?_)))
theorem lword {w : World} {mean : ExcName → Option Value} {mg mb : Str → Option Value} {dp un : Nat} {gd : Option (List Code)} {cn : Str} {cs : Scope} {a : Addr} {ccd : Value} {cl : List (Str × Addr)} {outer : List Env} {A₀ : Around} {base h₀ : Heap} {L : Addr} {m : Str → Option Value} {s : Shared} {Q E : Value → Shared → Prop}
  {news : List (Addr × Obj)} {k : Int} {t : Tok}
  (B : Below A₀ base outer h₀) (F : Fr h₀ L s.heap m) (X : (hd.heap_39 w.params).In h₀) (N : News h₀ L s.heap news) (T : Top hd.view_39 LO mean mg mb h₀) (hk : cs.kind = .function)
  (h0 : 0 ≤ k) (h1 : k < 10 ^ 6) (hdp : dp + 3 < recursionLimit) (hun : un + 24 < cLine)
  (hret : ∀ y t' h' tk', WordOk y → Fr h₀ L h' m → News h₀ L h' news → Q (.str y t') { s with heap := h', toks := tk' }) :
  wpAny (model PySem.Challenge.rw_mr0165_01.row.prog w) (ktrTop dp un gd cn cs L a ccd cl outer) (call (.ref 83) [.int k t]) Q E s := by
  revert X
  k_fill
  intro X
  refine wpAny_call ?_
  k_dflt (refine' code_defC ?k1 ?k2 ?k3 ?k4 ?k5 ?kA ?kF ?kK ?k6 ?k7 ?k8 ?k9 ?kB ?kD ?_ ?c2 ?c3 ?c4; (case kA => exact rfl); (case kF => exact rfl); (case kK => assumption); (case k1 => k_asm); (case k2 => k_asm); (case k3 => k_asm); (case k4 => k_asm); (case k5 => k_asm); (case k6 => k_is); (case k7 => k_is); (case k8 => ktr_room); (case k9 => exact BindsTo.of_eq rfl); (case kB => exact rfl); (case kD => decide +kernel); (case c2 => exact rfl); (case c3 => exact rfl); (case c4 => exact rfl); k_whole; intro g' L' h' tk' cells' FG' F' N' Y' B' X' T' l1; (try k_lt l1); k_cells Y'; (try simp only [List.cons_append, List.nil_append] at N'); (try dsimp only); (try k_lift B'); (try k_fold))
  repeat' ((fail_if_success (with_reducible show LCg.CompSrc _ _ _ _ _ _ _ _ _ _ _ _ _ _)); first | (k_unfold; (try dsimp only)) | (k_end; wrow_close) | walk1 | (dsimp only; walk1) | (leave1; walk_say "STEP leave1"; try dsimp only) | fail "no step")
  (rename IsRange _ _ _ _ _ _ _ _ => hR); (rename Fr _ _ _ _ => lF); (rename News _ _ _ _ => lN)
  have hq : k.fmod 4 = ((k % 4).toNat : Int) := by rw [Int.fmod_eq_emod_of_nonneg _ (by decide)]; omega
  have hq3 : (k % 4).toNat ≤ 3 := by omega
  rw [hq] at hR
  generalize (k % 4).toNat = q at hR hq3
  refine LCg.CompSrc.range (n := q) rfl lF lN hR (small_up (by omega)) (size_up _) (by rw [PySem.sizeLine_eq]; omega) ?_
  intro gh
  refine compRest_inv (n := q) (fun i ys nw => nw = (L' + 1, _) :: news ∧ ys.length = i ∧ ∃ cs : List Str, StrsAre ys cs ∧ ∀ c ∈ cs, OneOk c) ?_ ?_ _ _ _ _ (Nat.zero_add _) ⟨rfl, rfl, [], .nil, fun _ hc => nomatch hc⟩
  · clear lF lN hR
    rintro i ys nw v I oI C oC D m₂ h tk E' hi ⟨rfl, hl, cs, hcs, hone⟩ ⟨t, rfl⟩ hC hx F N off ne
    show wpAny _ _ (eval _ _) _ _ _
    (try k_fold)
    repeat' ((fail_if_success (with_reducible show LCg.CompEnd _ _ _ _ _ _ _ _ _ _ _ _ _ _)); first | (k_unfold; (try dsimp only)) | (k_end; wrow_close) | walk1 | (dsimp only; walk1) | (leave1; walk_say "STEP leave1"; try dsimp only) | fail "no step")
    (rename OneOk _ => hy); (rename Fr _ _ _ _ => fE); (rename News _ _ _ _ => nE)
    show LCg.CompEnd _ _ _ _ _ _ _ _ _ _ _ _ _ _
    refine LCg.CompEnd.intro fE nE ((L' + 1, _) :: news) (fun p hp => hp) off trivial ⟨rfl, ?_, cs ++ [_], strs_snoc hcs, ?_⟩
    · rw [List.length_append, hl]; rfl
    · intro c hc
      rcases List.mem_append.mp hc with q | q
      · exact hone c q
      · rw [List.mem_singleton.mp q]; exact hy
  · rintro ys nw ⟨rfl, hl, cs, hcs, hone⟩
    clear lF lN hR
    unfold LCg.FinE
    intro D h tk F N o1
    dsimp only
    repeat' ((fail_if_success (with_reducible show wpAny _ _ (call (Value.builtin "str.join") _) _ _ _)); first | (k_unfold; (try dsimp only)) | (k_end; wrow_close) | walk1 | (dsimp only; walk1) | (leave1; walk_say "STEP leave1"; try dsimp only) | fail "no step")
    have hlc : cs.length = ys.length := hcs.length.symm
    refine join_listW (x := Str.ofString "") (PySem.IsL.isList (n := ys.length) (N _ (List.mem_cons_self ..)).1) hcs (by decide) (by rw [ones_sum hone]; omega) ?_
    intro tj kj
    repeat' ((fail_if_success (with_reducible show False)); first | (k_unfold; (try dsimp only)) | (k_end; wrow_close) | walk1 | (dsimp only; walk1) | (leave1; walk_say "STEP leave1"; try dsimp only) | fail "no step")
    (rename Fr h₀ _ _ _ => fE); (rename News h₀ _ _ _ => nE)
    exact hret _ _ _ _ (ones_word (by omega) hone) fE (fun p hp => nE p (by simp [hp]))
end Mine
end
section
open PySem PySem.W PyProof.Rows
namespace Mine
theorem items_cap {ps : List Str} {jl : List (Str × Tok)} (h : ItemsOf (fun j v => ∃ y t, ps[j]? = some y ∧ v = Value.str (Txt.capitalize y) t) (strValues jl).toArray ps.length) : jl.map (·.1) = ps.map Txt.capitalize := by
  obtain ⟨h1, h2⟩ := h
  have hl : jl.length = ps.length := by simpa [strValues] using h1
  apply List.ext_getElem?
  intro j
  by_cases hj : j < jl.length
  · have e := h2 j (.str jl[j].1 jl[j].2) (by simp [strValues, hj])
    obtain ⟨y, t, hy, e2⟩ := e
    have e3 := (Value.str.inj e2).1
    rw [List.getElem?_map, List.getElem?_map, List.getElem?_eq_getElem hj, hy]
    exact congrArg some e3
  · rw [List.getElem?_eq_none (by simpa using Nat.le_of_not_lt hj), List.getElem?_eq_none (by simp; omega)]
theorem cap_sum : ∀ {ps : List Str}, (∀ y ∈ ps, y.length ≤ 1000) → ((ps.map Txt.capitalize).map (·.length)).sum ≤ 3000 * ps.length
  | [], _ => by simp
  | y :: r, h => by
    have h1 := h y (by simp)
    have h2 := len_capitalize y
    have h3 := cap_sum (ps := r) fun z hz => h z (List.mem_cons_of_mem _ hz)
    simp only [List.map_cons, List.sum_cons, List.length_cons]
    omega
theorem cap_total {ps : List Str} {mk : Str} (h1 : ps.length ≤ 1000) (h2 : ∀ y ∈ ps, y.length ≤ 1000) (h3 : mk.length ≤ 16) : ((ps.map Txt.capitalize).map (·.length)).sum + (ps.map Txt.capitalize).length * mk.length ≤ 16777216 := by
  have a := cap_sum h2
  have b : (ps.map Txt.capitalize).length * mk.length ≤ 1000 * 16 := Nat.mul_le_mul (by rw [List.length_map]; exact h1) h3
  omega
theorem capw {w : World} {mean : ExcName → Option Value} {mg mb : Str → Option Value} {dp un : Nat} {gd : Option (List Code)} {cn : Str} {cs : Scope} {a : Addr} {ccd : Value} {cl : List (Str × Addr)} {outer : List Env} {A₀ : Around} {base h₀ : Heap} {L : Addr} {m : Str → Option Value} {s : Shared} {Q E : Value → Shared → Prop}
  {news : List (Addr × Obj)} {x mk : Str} {t u : Tok} {ps : List Str}
  (B : Below A₀ base outer h₀) (F : Fr h₀ L s.heap m) (X : (hd.heap_39 w.params).In h₀) (N : News h₀ L s.heap news) (T : Top hd.view_39 LO mean mg mb h₀) (hk : cs.kind = .function)
  (hm : 0 < mk.length) (hm2 : mk.length ≤ 16) (hx : x.length ≤ 10000) (hsp : Txt.split x mk = ps) (hp1 : ps.length ≤ 1000) (hp2 : ∀ y ∈ ps, y.length ≤ 1000) (hdp : dp + 3 < recursionLimit) (hun : un + 24 < cLine)
  (hret : ∀ t' h' tk', Fr h₀ L h' m → News h₀ L h' news → Q (.str (Txt.join mk (ps.map Txt.capitalize)) t') { s with heap := h', toks := tk' }) :
  wpAny (model PySem.Challenge.rw_mr0165_01.row.prog w) (ktrTop dp un gd cn cs L a ccd cl outer) (call (.ref 78) [.str x t, .str mk u]) Q E s := by
  revert X
  k_fill
  intro X
  refine wpAny_call ?_
  k_dflt (refine' code_def ?k1 ?k2 ?k3 ?k4 ?k5 ?kA ?kF ?kK ?k6 ?k7 ?k8 ?k9 ?kB ?_ ?c2 ?c3 ?c4 ?c5; (case kA => exact rfl); (case kF => exact rfl); (case kK => assumption); (case k1 => k_asm); (case k2 => k_asm); (case k3 => k_asm); (case k4 => k_asm); (case k5 => k_asm); (case k6 => k_is); (case k7 => k_is); (case k8 => ktr_room); (case k9 => exact binds_K (by k_in) rfl (by k_is) rfl rfl rfl); (case c5 => decide); (case kB => exact locs rfl); (case c2 => exact rfl); (case c3 => exact rfl); (case c4 => exact rfl); k_whole; intro g' L' h' FG' F' N' B' X' T'; (try dsimp only); (try k_fold))
  repeat' ((fail_if_success (with_reducible show wpAny _ _ (getAttr (Value.type _) _ _) _ _ _)); first | (k_unfold; (try dsimp only)) | (k_end; wrow_close) | walk1 | (dsimp only; walk1) | (leave1; walk_say "STEP leave1"; try dsimp only) | fail "no step")
  rotate_left
  · exfalso
    rename ((mk.length : Int) = 0) => hz
    omega
  (rename Fr _ _ _ _ => lF); (rename Frag.In _ _ => lX)
  refine get_type lF lX meta_str (by decide +kernel) (find_cap _) (by decide +kernel) ?_
  repeat' ((fail_if_success (with_reducible show wpAny _ _ (call (Value.builtin "str.split") _) _ _ _)); first | (k_unfold; (try dsimp only)) | (k_end; wrow_close) | walk1 | (dsimp only; walk1) | (leave1; walk_say "STEP leave1"; try dsimp only) | fail "no step")
  (rename Fr _ _ _ _ => lF); (rename News _ _ _ _ => lN)
  refine KSpl.split1 lF lN (by simp; omega) ?_ (by rw [PySem.sizeLine_eq]; omega)
  intro D sl h1 k1 hsl hS F1 N1 lt1
  rw [hsl, hsp] at hS
  clear hsl lF lN
  repeat' ((fail_if_success (with_reducible show wpAny _ _ (call (Value.type "map") _) _ _ _)); first | (k_unfold; (try dsimp only)) | (k_end; wrow_close) | walk1 | (dsimp only; walk1) | (leave1; walk_say "STEP leave1"; try dsimp only) | fail "no step")
  have hD := N1 _ (List.mem_cons_self ..)
  have hDl : (h1 : Heap).IsList D (strValues sl).toArray := PySem.IsL.isList (n := 0) hD.1
  refine call_map_1 hDl ?_
  intro h2 m1 m2 m3 m4 m5
  have F2 := F1.keeps m5
  have N2 : News _ _ h2 _ := N1.grown m5
  repeat' ((fail_if_success (with_reducible show wpAny _ _ (call (Value.builtin "str.join") _) _ _ _)); first | (k_unfold; (try dsimp only)) | (k_end; wrow_close) | walk1 | (dsimp only; walk1) | (leave1; walk_say "STEP leave1"; try dsimp only) | fail "no step")
  have hDlt : @LT.lt Nat _ D h1.objs.size := Heap.lt_size hD.1
  have apart : MapApart (h1.objs.size + 2) (h1.objs.size + 1) h1.objs.size D := ⟨neN (by omega), neN (by omega), neN (by omega), neN (by omega), neN (by omega)⟩
  have W := fun (AA : Around) (hh : AA.handled = none) => walks_map (prog := PySem.Challenge.rw_mr0165_01.row.prog) (w := w) (A := AA) hh _ _ _ _ apart (strValues sl) ps hS (fun y hy => Nat.le_trans (hp2 y hy) (by decide))
  refine join_map (W _ rfl).toS (fun j s' st => ⟨_, st.1, rfl⟩) ⟨m1, m2, m3, hDl.at fun o e => m5 _ o e⟩ ?_ (List.mem_cons_self ..) ?_ ?_ ?_
  · intro b hb
    have e : h2.objs.size = h1.objs.size + 3 := m4
    show @LT.lt Nat _ b h2.objs.size
    simp only [List.mem_cons, List.not_mem_nil, or_false] at hb
    rcases hb with rfl | rfl | rfl | rfl <;> (try dsimp only) <;> omega
  · rintro j v ⟨y, ty, _, rfl⟩
    exact ⟨_, _, rfl⟩
  · rintro ⟨hp, gg, dd, tk2, os2⟩ jl ⟨k1', k2', k3', k4', k5'⟩ hit
    have ej : jl.map (·.1) = ps.map Txt.capitalize := items_cap hit
    rw [ej]
    refine ⟨joinOk_of (cap_total hp1 hp2 hm2), ?_⟩
    intro tj kj
    have eg : gg = s.gens := k2'
    have ed : dd = s.drawn := k3'
    have eo : os2 = s.os := k4'
    subst eg ed eo
    have F3 : Fr _ _ hp _ := LCg.fr_but F2 (I := h1.objs.size) k1' (Nat.ne_of_lt F1.ns.lt) (next_is_new F1)
    have N3 : News _ _ hp _ := LCg.news_but N2 (I := h1.objs.size) k1' (fun p hp' => by
      rcases List.mem_cons.mp hp' with q | q
      · rw [q]; exact Nat.ne_of_lt hDlt
      · exact Nat.ne_of_lt (Nat.lt_trans (lt1 p q) hDlt))
    repeat' ((fail_if_success (with_reducible show False)); first | (k_unfold; (try dsimp only)) | (k_end; wrow_close) | walk1 | (dsimp only; walk1) | (leave1; walk_say "STEP leave1"; try dsimp only) | fail "no step")
    (rename Fr h₀ _ _ _ => fE); (rename News h₀ _ _ _ => nE)
    exact hret _ _ _ fE (fun p hp => nE p (List.mem_cons_of_mem _ hp))
  · rw [PySem.sizeLine_eq]; omega
end Mine
end
section
open PySem PySem.W PyProof.Rows
namespace Mine
noncomputable def lawFD : Stmt := (PySem.Challenge.pw_mr0165_01.main.body).getLastD (.Pass ⟨0, 0, 0, 0⟩)
def bodyOf : Stmt → List Stmt
  | .FunctionDef _ _ b _ _ _ _ _ _ _ => b
  | _ => []
def scopeOf : Stmt → Scope
  | .FunctionDef _ _ _ _ _ _ sc _ _ _ => sc
  | _ => { kind := .function, names := [], isGenerator := false, isCoroutine := false }
noncomputable def lawBody : List Stmt := bodyOf lawFD
noncomputable def lawScope : Scope := scopeOf lawFD
noncomputable abbrev lawEnv (L fa : Addr) (cd : Value) : Env := envOfC (Str.ofString "law") lawScope L fa cd
noncomputable abbrev lawA (L fa : Addr) (cd : Value) : Around := callerA.deeper (lawEnv L fa cd)
def Off5 (L X : Addr) : Prop := (@Ne Nat X (L + 5)) ∧ (@Ne Nat X (L + 4)) ∧ (@Ne Nat X (L + 3)) ∧ (@Ne Nat X (L + 2)) ∧ (@Ne Nat X (L + 1))
theorem off5_of {L X : Addr} (h : @LT.lt Nat _ (L + 5) X) : Off5 L X := by unfold Off5; omega
theorem addNe {L a b : Nat} (h : a ≠ b) : L + a ≠ L + b := fun e => h (Nat.add_left_cancel e)
theorem below_size {h₀ h : Heap} {L : Addr} {news : List (Addr × Obj)} (N : News h₀ L h news) : AllLt h.objs.size news := allLt_of fun p hp => Heap.lt_size (N p hp).1
theorem swp1 {α : Type} {a b c d p : α} {r : List α} (h : p ∈ d :: a :: b :: c :: r) : p ∈ a :: b :: c :: d :: r := by
  rcases List.mem_cons.mp h with q | h
  · exact List.mem_cons_of_mem _ (List.mem_cons_of_mem _ (List.mem_cons_of_mem _ (List.mem_cons.mpr (.inl q))))
  · rcases List.mem_cons.mp h with q | h
    · exact List.mem_cons.mpr (.inl q)
    · rcases List.mem_cons.mp h with q | h
      · exact List.mem_cons_of_mem _ (List.mem_cons.mpr (.inl q))
      · rcases List.mem_cons.mp h with q | h
        · exact List.mem_cons_of_mem _ (List.mem_cons_of_mem _ (List.mem_cons.mpr (.inl q)))
        · exact List.mem_cons_of_mem _ (List.mem_cons_of_mem _ (List.mem_cons_of_mem _ (List.mem_cons_of_mem _ h)))
theorem swp2 {α : Type} {a b c d p : α} {r : List α} (h : p ∈ a :: b :: c :: d :: r) : p ∈ d :: a :: b :: c :: r := by
  rcases List.mem_cons.mp h with q | h
  · exact List.mem_cons_of_mem _ (List.mem_cons.mpr (.inl q))
  · rcases List.mem_cons.mp h with q | h
    · exact List.mem_cons_of_mem _ (List.mem_cons_of_mem _ (List.mem_cons.mpr (.inl q)))
    · rcases List.mem_cons.mp h with q | h
      · exact List.mem_cons_of_mem _ (List.mem_cons_of_mem _ (List.mem_cons_of_mem _ (List.mem_cons.mpr (.inl q))))
      · rcases List.mem_cons.mp h with q | h
        · exact List.mem_cons.mpr (.inl q)
        · exact List.mem_cons_of_mem _ (List.mem_cons_of_mem _ (List.mem_cons_of_mem _ (List.mem_cons_of_mem _ h)))
theorem pop_lt {n i w z : Nat} (hi : i < w) (hlw : w = z) (hz : z = n) : i < n := by omega
theorem pop_pos {c n i : Nat} (hcl : c = n - i) (hi : i < n) : 0 < c := by omega
theorem pop_le {c n i : Nat} (hcl : c = n - i) (hl : n ≤ 1000) : c ≤ 1000 := by omega
theorem pop_end {n w z : Nat} (hlw : w = z) (hz : z = n) : n - w = 0 := by omega
theorem neg_idx {i n : Nat} (h : i < n) : (-1 - (0 + (i : Int)) + (n : Int)).toNat = n - 1 - i := by omega
theorem neg1 {i : Nat} : -1 - (0 + (i : Int)) < 0 := by omega
theorem neg2 {i n : Nat} (h : i < n) : -(n : Int) ≤ -1 - (0 + (i : Int)) := by omega
theorem neg3 {i n : Nat} (h : i < n) (hn : n ≤ 1000) : -(2 ^ 63) ≤ -1 - (0 + (i : Int)) := by omega
theorem mem_tailD {α : Type} {s d x p : α} {t : List α} (h : p ∈ d :: t) : p ∈ s :: d :: x :: t := by
  rcases List.mem_cons.mp h with q | h
  · exact List.mem_cons_of_mem _ (List.mem_cons.mpr (.inl q))
  · exact List.mem_cons_of_mem _ (List.mem_cons_of_mem _ (List.mem_cons_of_mem _ h))
theorem mem_tailE {α : Type} {d o r w p : α} {t : List α} (h : p ∈ r :: w :: d :: t) : p ∈ d :: o :: r :: w :: t := by
  rcases List.mem_cons.mp h with q | h
  · exact List.mem_cons_of_mem _ (List.mem_cons_of_mem _ (List.mem_cons.mpr (.inl q)))
  · rcases List.mem_cons.mp h with q | h
    · exact List.mem_cons_of_mem _ (List.mem_cons_of_mem _ (List.mem_cons_of_mem _ (List.mem_cons.mpr (.inl q))))
    · rcases List.mem_cons.mp h with q | h
      · exact List.mem_cons.mpr (.inl q)
      · exact List.mem_cons_of_mem _ (List.mem_cons_of_mem _ (List.mem_cons_of_mem _ (List.mem_cons_of_mem _ h)))
theorem fr_if {h₀ h : Heap} {L : Addr} {m : Str → Option Value} {x : Str} {v : Value} (F : Fr h₀ L h m) (e : m x = some v) : Fr h₀ L h (fun y => if y = x then some v else m y) := by
  have em : (fun y => if y = x then some v else m y) = m := by
    funext y
    by_cases hy : y = x
    · rw [if_pos hy, hy]; exact e.symm
    · rw [if_neg hy]
  rw [em]; exact F
end Mine
end
section
open PySem PySem.W PyProof.Rows
namespace Mine
section
variable {prog : Program} {w : World} {A : Around} {E : Value → Shared → Prop} {s : Shared} {h₀ : Heap} {L : Addr} {m : Str → Option Value} {env : Env}
  {elt iter1 iter2 ct : Expr} {x1 x2 : Str} {px1 px2 : Pos} {scope : Scope} {cl : List (Str × Addr)} {pos : Pos} {R : Result → Shared → Prop}
abbrev CC (elt iter1 iter2 ct : Expr) (x1 x2 : Str) (px1 px2 : Pos) (scope : Scope) (pos : Pos) : Expr :=
  .ListComp elt [⟨.Name x1 px1, iter1, [], 0⟩, ⟨.Name x2 px2, iter2, [ct], 0⟩] scope pos
theorem compTurn_in (it acc : Value) (cenv : Env) : compTurn (CC elt iter1 iter2 ct x1 x2 px1 px2 scope pos) 1 it acc cenv = (do
      standAt iter2.pos
      match ← pyNext it with
      | none => pure (.done .next)
      | some v =>
        letOwnedTupleGo (.Name x2 px2) it v
        assign (.Name x2 px2) cenv v
        let mut ok := true
        for c in [ct] do
          if ok then ok ← isTrue c cenv (eval c cenv)
        if ok then
          (do let _ ← call (.builtin "list.append") [acc, ← eval elt cenv])
        again (.compLoop (CC elt iter1 iter2 ct x1 x2 px1 px2 scope pos) 1 it acc cenv)) := by rfl
theorem compTurn_out (it acc : Value) (cenv : Env) : compTurn (CC elt iter1 iter2 ct x1 x2 px1 px2 scope pos) 0 it acc cenv = (do
      standAt iter1.pos
      match ← pyNext it with
      | none => pure (.done .next)
      | some v =>
        letOwnedTupleGo (.Name x1 px1) it v
        assign (.Name x1 px1) cenv v
        let x ← eval iter2 cenv
        standAt iter2.pos
        let x ← foldedSetIterable iter2 cenv x
        let it2 ← holding [x] (pyIter x)
        let _ ← runOwn (.compStart (CC elt iter1 iter2 ct x1 x2 px1 px2 scope pos) 1 it2 acc cenv) cenv
        again (.compLoop (CC elt iter1 iter2 ct x1 x2 px1 px2 scope pos) 0 it acc cenv)) := by rfl
theorem compStart_in {it acc : Value} {cenv : Env}
    (h0 : codeAny (model prog w) A (.compLoop (CC elt iter1 iter2 ct x1 x2 px1 px2 scope pos) 1 it acc cenv) R s)
    (h : wpAny (model prog w) A (pyIter it) (fun it' s' => codeAny (model prog w) A (.compLoop (CC elt iter1 iter2 ct x1 x2 px1 px2 scope pos) 1 it' acc cenv) R s')
      (notedBy (model prog w) A cenv fun x s' => R (.error x) s') s) :
    codeAny (model prog w) A (.compStart (CC elt iter1 iter2 ct x1 x2 px1 px2 scope pos) 1 it acc cenv) R s := by
  refine codeAny_of_tree ?_
  show wpAny _ _ ((compStart (CC elt iter1 iter2 ct x1 x2 px1 px2 scope pos) 1 it acc cenv).onRaise (fun x => do noteFrame x cenv; standAt theWindowsPlace)) _ _ s
  refine wpAny_notedAt ?_
  unfold compStart
  show wpAny _ _ (ask >>= _) _ _ s
  refine wpAny_bind (wpAny_askSetting (wpAny_ite ?_))
  split
  · first
      | exact wpAny_bind (wpAny_pure (wpAny_pure (And.intro rfl h0)))
      | exact wpAny_pure (And.intro rfl h0)
  · first
      | exact wpAny_bind (wpAny_rule (wpAny_bind (wpAny_standAt (wpAny_bind (wpAny_mono h (fun it' s' h' => wpAny_pure (And.intro rfl h')) fun _ _ x => x)))))
      | (refine wpAny_bind (wpAny_rule ?_); show wpAny _ _ (standAt iter2.pos >>= _) _ _ s; exact wpAny_bind (wpAny_standAt (wpAny_bind (wpAny_mono h (fun it' s' h' => wpAny_pure (And.intro rfl h')) fun _ _ x => x))))
theorem compStart_in1 {I ax : Addr} {j : Nat} {acc : Value} {cenv : Env} (hit : s.heap.IsListIter I ax j)
    (h0 : codeAny (model prog w) A (.compLoop (CC elt iter1 iter2 ct x1 x2 px1 px2 scope pos) 1 (.ref I) acc cenv) R s) :
    codeAny (model prog w) A (.compStart (CC elt iter1 iter2 ct x1 x2 px1 px2 scope pos) 1 (.ref I) acc cenv) R s := compStart_in h0 (wpAny_pyIter_listiter hit h0)
/-- what a test or an element keeps: the frame and the whole ledger -/
def Same2 (h₀ : Heap) (L : Addr) (m : Str → Option Value) (all : List (Addr × Obj)) (s s' : Shared) : Prop := ∃ h' tk, s' = { s with heap := h', toks := tk } ∧ Fr h₀ L h' m ∧ News h₀ L h' all
structure Apart3 (I C D : Addr) (news : List (Addr × Obj)) : Prop where
  IC : I ≠ C
  ID : I ≠ D
  CD : C ≠ D
  off : ∀ p ∈ news, p.1 ≠ I ∧ p.1 ≠ C ∧ p.1 ≠ D
theorem mem3 {I C D : Addr} {oI oC oD : Obj} {news : List (Addr × Obj)} : (I, oI) ∈ (I, oI) :: (C, oC) :: (D, oD) :: news ∧ (C, oC) ∈ (I, oI) :: (C, oC) :: (D, oD) :: news ∧ (D, oD) ∈ (I, oI) :: (C, oC) :: (D, oD) :: news :=
  ⟨List.mem_cons_self, List.mem_cons_of_mem _ List.mem_cons_self, List.mem_cons_of_mem _ (List.mem_cons_of_mem _ List.mem_cons_self)⟩
/-- one of the three changes -/
theorem news3 {h h' : Heap} {I C D : Addr} {oI oC oD oI' oC' oD' : Obj} {news : List (Addr × Obj)} (N : News h₀ L h ((I, oI) :: (C, oC) :: (D, oD) :: news)) (hI : h'.get? I = some oI') (hC : h'.get? C = some oC') (hD : h'.get? D = some oD')
    (hk : ∀ p ∈ news, h.get? p.1 = some p.2 → h'.get? p.1 = some p.2) : News h₀ L h' ((I, oI') :: (C, oC') :: (D, oD') :: news) := fun p hp => by
  rcases List.mem_cons.mp hp with rfl | hp
  · exact ⟨hI, (N _ mem3.1).2⟩
  · rcases List.mem_cons.mp hp with rfl | hp
    · exact ⟨hC, (N _ mem3.2.1).2⟩
    · rcases List.mem_cons.mp hp with rfl | hp
      · exact ⟨hD, (N _ mem3.2.2).2⟩
      · have z := N p (List.mem_cons_of_mem _ (List.mem_cons_of_mem _ (List.mem_cons_of_mem _ hp)))
        exact ⟨hk p hp z.1, z.2⟩
theorem inner2 {I ax C D : Addr} {vs : List Value} {xs : List Str} {nn : Nat} {nb : List (Addr × Obj)} {k : Int} (tst : Str → Int → Bool) (g : Str → Str)
    (hh : A.handled = none) (hax : (ax, listOf vs.toArray nn) ∈ nb) (hS : StrsAre vs xs) (hkind : scope.kind = .function) (hx2 : scope.names.lookup x2 = some .local) (hx12 : x1 ≠ x2) (ap : Apart3 I C D nb)
    (test : ∀ (x : Str) (t t' : Tok) (oI oC oD : Obj) (m₂ : Str → Option Value) (h : Heap) (tk : Nat) (E' : Value → Shared → Prop), x ∈ xs → LCg.NsObj oC m₂ → m₂ x1 = some (.int k t) → m₂ x2 = some (.str x t') → Fr h₀ L h m → News h₀ L h ((I, oI) :: (C, oC) :: (D, oD) :: nb) →
      wpAny (model prog w) A (isTrue ct (compEnvC scope cl C env) (eval ct (compEnvC scope cl C env))) (fun ok s' => ok = tst x k ∧ Same2 h₀ L m ((I, oI) :: (C, oC) :: (D, oD) :: nb) { s with heap := h, toks := tk } s') E' { s with heap := h, toks := tk })
    (el : ∀ (x : Str) (t' : Tok) (oI oC oD : Obj) (m₂ : Str → Option Value) (h : Heap) (tk : Nat) (E' : Value → Shared → Prop), x ∈ xs → LCg.NsObj oC m₂ → m₂ x2 = some (.str x t') → Fr h₀ L h m → News h₀ L h ((I, oI) :: (C, oC) :: (D, oD) :: nb) →
      wpAny (model prog w) A (eval elt (compEnvC scope cl C env)) (fun y s' => (∃ t, y = .str (g x) t) ∧ Same2 h₀ L m ((I, oI) :: (C, oC) :: (D, oD) :: nb) { s with heap := h, toks := tk } s') E' { s with heap := h, toks := tk })
    {ys : List Value} {zs : List Str} (hz : StrsAre ys zs) (hzl : zs.length + xs.length ≤ 1000000) {oI oC : Obj} {m₁ : Str → Option Value} {t₁ : Tok} {h₁ : Heap} {tk₁ : Nat}
    (F : Fr h₀ L h₁ m) (N : News h₀ L h₁ ((I, oI) :: (C, oC) :: (D, LCg.lst ys) :: nb)) (hIt : h₁.IsListIter I ax 0) (hC : LCg.NsObj oC m₁) (hk1 : m₁ x1 = some (.int k t₁))
    (fin : ∀ ys' oC' m' t' h' tk', StrsAre ys' (zs ++ (xs.filter (tst · k)).map g) → LCg.NsObj oC' m' → m' x1 = some (.int k t') → Fr h₀ L h' m → News h₀ L h' ((C, oC') :: (D, LCg.lst ys') :: nb) → R (.ok .next) { s with heap := h', toks := tk' }) :
    codeAny (model prog w) A (.compLoop (CC elt iter1 iter2 ct x1 x2 px1 px2 scope pos) 1 (.ref I) (.ref D) (compEnvC scope cl C env)) R { s with heap := h₁, toks := tk₁ } := by
  have hvl : vs.length = xs.length := hS.length
  have off := ap.off
  refine codeAny_loop rfl (fun n s' => ∃ h' tk j oI' oC' m' t' ys', s' = { s with heap := h', toks := tk } ∧ j ≤ xs.length ∧ n = xs.length + 1 - j ∧ Fr h₀ L h' m ∧ News h₀ L h' ((I, oI') :: (C, oC') :: (D, LCg.lst ys') :: nb) ∧ h'.IsListIter I ax j ∧ LCg.NsObj oC' m' ∧ m' x1 = some (.int k t') ∧
    StrsAre ys' (zs ++ ((xs.take j).filter (tst · k)).map g)) (fun n s' hI => ?_) (xs.length + 1) ⟨h₁, tk₁, 0, oI, oC, m₁, t₁, ys, rfl, Nat.zero_le _, rfl, F, N, hIt, hC, hk1, by simpa using hz⟩
  obtain ⟨h', tk, j, oI', oC', m', t', ys', rfl, hj, rfl, F', N', hIt', hC', hk', hy'⟩ := hI
  show wpAny _ A ((compTurn (CC elt iter1 iter2 ct x1 x2 px1 px2 scope pos) 1 (.ref I) (.ref D) (compEnvC scope cl C env)).onRaise (fun x => do noteFrame x (compEnvC scope cl C env); theTreesLotGoes x)) _ _ _
  refine wpAny_noted ?_
  rw [compTurn_in]
  refine wpAny_bind (wpAny_standAt (wpAny_bind ?_))
  have zI := N' _ mem3.1
  have zC := N' _ mem3.2.1
  have zD := N' _ mem3.2.2
  have hL : h'.IsList ax vs.toArray := PySem.IsL.isList (n := nn) (N' (ax, listOf vs.toArray nn) (List.mem_cons_of_mem _ (List.mem_cons_of_mem _ (List.mem_cons_of_mem _ hax)))).1
  have hneax : ax ≠ I := (off _ hax).1
  have W := Walks.list (prog := prog) (w := w) (A := A) hh I ax hneax vs.toArray
  by_cases hlt : j < xs.length
  · refine W.item j _ _ _ (by simpa [hvl] using hlt) ⟨hIt', hL⟩ fun v h₂ tk₂ hv st₂ hk₂ => ?_
    obtain ⟨x, hx⟩ : ∃ x, xs[j]? = some x := ⟨xs[j], List.getElem?_eq_getElem hlt⟩
    obtain ⟨tv, hv'⟩ := hS.at hx
    have ev : v = .str x tv := by
      have hv2 : vs[j]? = some v := by simpa using hv
      rw [hv'] at hv2
      exact (Option.some.inj hv2).symm
    subst ev
    refine wpAny_bind (wpAny_of_eq (show letOwnedTupleGo (.Name x2 px2) (.ref I) (.str x tv) = pure () from rfl) ?_)
    have hnC : h₂.Ns C m' := hC'.ns (hk₂ C oC' (by simpa using ap.IC.symm) zC.1)
    refine wpAny_bind (wpAny_assign_Name (wpAny_storeName_local (lookup_relabel_local hx2) hnC (fun h₃ hn₃ hs₃ => ?_) (by simp [compEnvC, relabel, hkind])))
    replace hs₃ : Heap.SameBut C h₂ h₃ := hs₃
    obtain ⟨oC₃, heC, hoC⟩ := LCg.ns_obj hn₃
    replace heC : h₃.get? C = some oC₃ := heC
    obtain ⟨oI₂, heI₂, hcI⟩ := id st₂.1
    have heI₃ : h₃.get? I = some oI₂ := hs₃.extBut _ _ ap.IC heI₂
    have heD₃ : h₃.get? D = some (LCg.lst ys') := hs₃.extBut _ _ ap.CD.symm (hk₂ D _ (by simpa using ap.ID.symm) zD.1)
    have F₃ : Fr h₀ L h₃ m := (LCg.fr_but F' hk₂ zI.2.1.symm zI.2.2).change hs₃ zC.2.1 zC.2.2
    have N₃ : News h₀ L h₃ ((I, oI₂) :: (C, oC₃) :: (D, LCg.lst ys') :: nb) := news3 N' heI₃ heC heD₃ fun p hp e => hs₃.extBut _ _ (off p hp).2.1 (hk₂ _ _ (by simpa using (off p hp).1) e)
    have hmx : x ∈ xs := List.mem_of_getElem? hx
    have hk3 : (fun y => if y = x2 then some (Value.str x tv) else m' y) x1 = some (.int k t') := by
      show (if x1 = x2 then _ else m' x1) = _
      rw [if_neg hx12]; exact hk'
    refine wpAny_bind (wpAny_tests_one (wpAny_mono (test x t' tv oI₂ oC₃ (LCg.lst ys') _ h₃ _ _ hmx hoC hk3 (by simp) F₃ N₃) (fun ok s₄ h₄ => ?_) fun _ _ e => e))
    obtain ⟨rfl, h₄, tk₄, rfl, F₄, N₄⟩ := h₄
    have htake : (xs.take (j + 1)).filter (tst · k) = (xs.take j).filter (tst · k) ++ if tst x k = true then [x] else [] := by
      rw [List.take_add_one, hx, List.filter_append]
      simp only [Option.toList_some]
      cases htx : tst x k <;> simp [htx]
    have itAt : ∀ {hq : Heap}, hq.get? I = some oI₂ → hq.IsListIter I ax (j + 1) := fun e => ⟨oI₂, e, hcI⟩
    cases hb : tst x k with
    | false =>
      simp only [Bool.false_eq_true, if_false]
      refine wpAny_pure ⟨rfl, xs.length + 1 - (j + 1), by omega, h₄, tk₄, j + 1, oI₂, oC₃, _, t', ys', rfl, hlt, rfl, F₄, N₄, itAt (N₄ _ mem3.1).1, hoC, hk3, ?_⟩
      rw [htake, hb]
      simpa using hy'
    | true =>
      simp only [if_true]
      refine wpAny_bind (wpAny_bind (wpAny_mono (el x tv oI₂ oC₃ (LCg.lst ys') _ h₄ tk₄ _ hmx hoC (by simp) F₄ N₄) (fun y s₅ h₅ => ?_) fun _ _ e => e))
      obtain ⟨⟨ty, rfl⟩, h₅, tk₅, rfl, F₅, N₅⟩ := h₅
      have hyl := hy'.length
      have hfl : ((xs.take j).filter (tst · k)).length ≤ xs.length := Nat.le_trans (List.length_filter_le _ _) (by rw [List.length_take]; omega)
      rw [List.length_append, List.length_map] at hyl
      refine wpAny_bind (append_at (hsz := by rw [PySem.sizeLine_eq, List.size_toArray]; omega) (N₅ _ mem3.2.2).1 fun h₆ hs₆ hD₆ => ?_)
      refine wpAny_pure (wpAny_pure ⟨rfl, xs.length + 1 - (j + 1), by omega, h₆, tk₅, j + 1, oI₂, oC₃, _, t', ys' ++ [.str (g x) ty], rfl, hlt, rfl, F₅.change hs₆ zD.2.1 zD.2.2, ?_, itAt (hs₆.extBut _ _ ap.ID (N₅ _ mem3.1).1), hoC, hk3, ?_⟩)
      · exact news3 N₅ (hs₆.extBut _ _ ap.ID (N₅ _ mem3.1).1) (hs₆.extBut _ _ ap.CD (N₅ _ mem3.2.1).1) (hD₆.trans (congrArg some (LCg.lst_snoc ys' _))) fun p hp e => hs₆.extBut _ _ (off p hp).2.2 e
      · rw [htake, hb]
        simp only [if_true, List.map_append, List.map_cons, List.map_nil]
        rw [← List.append_assoc]
        exact strs_snoc hy'
  · have ej : j = xs.length := by omega
    subst ej
    refine W.done _ _ _ (by simpa [hvl] using ⟨hIt', hL⟩) fun h₂ tk₂ hk₂ => ?_
    refine wpAny_pure (fin ys' oC' m' t' h₂ tk₂ (by simpa using hy') hC' hk' (LCg.fr_but F' hk₂ zI.2.1.symm zI.2.2) ?_)
    intro p hp
    rcases List.mem_cons.mp hp with rfl | hp
    · exact ⟨hk₂ _ _ (by simpa using ap.IC.symm) zC.1, zC.2⟩
    · rcases List.mem_cons.mp hp with rfl | hp
      · exact ⟨hk₂ _ _ (by simpa using ap.ID.symm) zD.1, zD.2⟩
      · have z := N' p (List.mem_cons_of_mem _ (List.mem_cons_of_mem _ (List.mem_cons_of_mem _ hp)))
        exact ⟨hk₂ _ _ (by simpa using (off p hp).1) z.1, z.2⟩
theorem listComp2 {ax : Addr} {vs : List Value} {xs : List Str} {nn n1 : Nat} {news : List (Addr × Obj)} {Q : Value → Shared → Prop} (tst : Str → Int → Bool) (g : Str → Str) (F₀ : Fr h₀ L s.heap m)
    (hh : A.handled = none) (hax : (ax, listOf vs.toArray nn) ∈ news) (hS : StrsAre vs xs) (hn1 : n1 ≤ 100) (hxl : xs.length ≤ 1000)
    (hclos : closureFor scope env = pure cl) (hcell : ∀ y ∈ scope.names, y.2 ≠ .cell) (hkind : scope.kind = .function)
    (hnames : ∀ y ∈ scope.names, y.2 = .local → scope.names.lookup y.1 = some .local) (hx1 : scope.names.lookup x1 = some .local) (hx2 : scope.names.lookup x2 = some .local) (hx12 : x1 ≠ x2)
    (hs1 : ∀ x, foldedSetIterable iter1 env x = pure x) (hs2 : ∀ C x, foldedSetIterable iter2 (compEnvC scope cl C env) x = pure x)
    (h : wpAny (model prog w) A (eval iter1 env) (fun xv s₁ => ∃ r t u v h tk, xv = .ref r ∧ s₁ = { s with heap := h, toks := tk } ∧ Fr h₀ L h m ∧ News h₀ L h news ∧ IsRange h r 0 (n1 : Int) 1 t u v) E s)
    (it2 : ∀ (I C D : Addr) (oI oC oD : Obj) (m₂ : Str → Option Value) (h : Heap) (tk : Nat) (E' : Value → Shared → Prop), LCg.NsObj oC m₂ → Fr h₀ L h m → News h₀ L h ((I, oI) :: (C, oC) :: (D, oD) :: news) →
      wpAny (model prog w) A (eval iter2 (compEnvC scope cl C env)) (fun v s' => v = .ref ax ∧ Same2 h₀ L m ((I, oI) :: (C, oC) :: (D, oD) :: news) { s with heap := h, toks := tk } s') E' { s with heap := h, toks := tk })
    (test : ∀ (I C D J : Addr) (oJ : Obj) (k : Int) (x : Str) (t t' : Tok) (oI oC oD : Obj) (m₂ : Str → Option Value) (h : Heap) (tk : Nat) (E' : Value → Shared → Prop), x ∈ xs → LCg.NsObj oC m₂ → m₂ x1 = some (.int k t) → m₂ x2 = some (.str x t') → Fr h₀ L h m → News h₀ L h ((I, oI) :: (C, oC) :: (D, oD) :: (J, oJ) :: news) →
      wpAny (model prog w) A (isTrue ct (compEnvC scope cl C env) (eval ct (compEnvC scope cl C env))) (fun ok s' => ok = tst x k ∧ Same2 h₀ L m ((I, oI) :: (C, oC) :: (D, oD) :: (J, oJ) :: news) { s with heap := h, toks := tk } s') E' { s with heap := h, toks := tk })
    (el : ∀ (I C D J : Addr) (oJ : Obj) (x : Str) (t' : Tok) (oI oC oD : Obj) (m₂ : Str → Option Value) (h : Heap) (tk : Nat) (E' : Value → Shared → Prop), x ∈ xs → LCg.NsObj oC m₂ → m₂ x2 = some (.str x t') → Fr h₀ L h m → News h₀ L h ((I, oI) :: (C, oC) :: (D, oD) :: (J, oJ) :: news) →
      wpAny (model prog w) A (eval elt (compEnvC scope cl C env)) (fun y s' => (∃ t, y = .str (g x) t) ∧ Same2 h₀ L m ((I, oI) :: (C, oC) :: (D, oD) :: (J, oJ) :: news) { s with heap := h, toks := tk } s') E' { s with heap := h, toks := tk })
    (fin : ∀ D ys h tk, StrsAre ys ((List.range n1).flatMap fun (k : Nat) => (xs.filter (tst · (k : Int))).map g) → Fr h₀ L h m → News h₀ L h ((D, LCg.lst ys) :: news) → (∀ p ∈ news, p.1 ≠ D) → Q (.ref D) { s with heap := h, toks := tk }) :
    wpAny (model prog w) A (eval (CC elt iter1 iter2 ct x1 x2 px1 px2 scope pos) env) Q E s := by
  rw [eval_ListComp]
  refine wpAny_comprehension_free (use := none) rfl hs1 hclos hkind hnames (wpAny_mono h (fun xv s₁ h₁ => ?_) fun _ _ e => e)
  obtain ⟨r, t, u, v, hq, tkq, rfl, rfl, F, N, hr⟩ := h₁
  refine wpAny_pyIter_range hr (small_up (Nat.le_trans hn1 (by decide))) ?_
  rw [size_up]
  generalize hH1 : Heap.push hq { cls := .type "range_iterator", data := .fields #[rawInt 0, rawInt (n1 : Int), rawInt 1] } = H1
  have hI0 : hq.objs.size = hq.objs.size := rfl
  have zI1 : H1.objs.size = hq.objs.size + 1 := by rw [← hH1, Heap.size_push]
  have F1 : Fr h₀ L H1 m := hH1 ▸ F.push _
  have gI1 : H1.get? hq.objs.size = some { cls := .type "range_iterator", data := .fields #[rawInt 0, rawInt (n1 : Int), rawInt 1] } := hH1 ▸ Heap.get?_push_size _ rfl
  have old1 : ∀ b o, hq.get? b = some o → H1.get? b = some o := fun b o e => hH1 ▸ Heap.get?_push_of_some _ e
  refine wpAny_newObj_type (wpAny_newFunctionEnv hcell (by intro y hy; simp at hy) (fun h₁ hns₁ hsb₁ => ?_) hkind)
  dsimp only at hns₁ hsb₁ ⊢
  generalize hH2 : H1.push { cls := .type "list", dict := none, data := .seq ([] : List Value).toArray } = H2 at hns₁ hsb₁ ⊢
  have zD : H2.objs.size = H1.objs.size + 1 := by rw [← hH2, Heap.size_push]
  have old2 : ∀ b o, H1.get? b = some o → h₁.get? b = some o := fun b o e => hsb₁.extBut b o (Nat.ne_of_lt (by rw [zD]; exact Nat.lt_succ_of_lt (Heap.lt_size e))) (Heap.get?_push_of_some _ (hH2 ▸ Heap.get?_push_of_some _ e))
  have gD : h₁.get? H1.objs.size = some (LCg.lst []) := hsb₁.extBut _ _ (Nat.ne_of_lt (by rw [zD]; exact Nat.lt_succ_self _)) (Heap.get?_push_of_some _ (hH2 ▸ Heap.get?_push_size _ rfl))
  obtain ⟨oC, gC, hoC⟩ := LCg.ns_obj hns₁
  have hLlt : L < hq.objs.size := F.ns.lt
  have fresh₀ : ∀ a, hq.objs.size ≤ a → h₀.get? a = none := fun a ha => by
    cases e : h₀.get? a with
    | none => rfl
    | some o' => exact absurd (Heap.lt_size (F.keep a o' e)) (Nat.not_lt.mpr ha)
  have hI₀ : h₀.get? hq.objs.size = none := fresh₀ _ (Nat.le_refl _)
  have hD₀ : h₀.get? H1.objs.size = none := fresh₀ _ (by rw [zI1]; exact Nat.le_succ _)
  have hC₀ : h₀.get? H2.objs.size = none := fresh₀ _ (by rw [zD, zI1]; exact Nat.le_trans (Nat.le_succ _) (Nat.le_succ _))
  have lID : @LT.lt Nat _ hq.objs.size H1.objs.size := by rw [zI1]; exact Nat.lt_succ_self _
  have lDC : @LT.lt Nat _ H1.objs.size H2.objs.size := by rw [zD]; exact Nat.lt_succ_self _
  have hpl : ∀ p ∈ news, @LT.lt Nat _ p.1 hq.objs.size := fun p hp => Heap.lt_size (N p hp).1
  have apN : ∀ p ∈ news, p.1 ≠ hq.objs.size ∧ p.1 ≠ H2.objs.size ∧ p.1 ≠ H1.objs.size := fun p hp => ⟨Nat.ne_of_lt (hpl p hp), Nat.ne_of_lt (Nat.lt_trans (hpl p hp) (Nat.lt_trans lID lDC)), Nat.ne_of_lt (Nat.lt_trans (hpl p hp) lID)⟩
  have ICn : hq.objs.size ≠ H2.objs.size := Nat.ne_of_lt (Nat.lt_trans lID lDC)
  have IDn : hq.objs.size ≠ H1.objs.size := Nat.ne_of_lt lID
  have CDn : H2.objs.size ≠ H1.objs.size := Nat.ne_of_gt lDC
  have nL : ∀ a : Addr, hq.objs.size ≤ a → a ≠ L := fun a ha => Nat.ne_of_gt (Nat.lt_of_lt_of_le hLlt ha)
  have N₁ : News h₀ L h₁ ((hq.objs.size, _) :: (H2.objs.size, oC) :: (H1.objs.size, LCg.lst []) :: news) := fun p hp => by
    rcases List.mem_cons.mp hp with rfl | hp
    · exact ⟨old2 _ _ gI1, nL _ (Nat.le_refl _), hI₀⟩
    · rcases List.mem_cons.mp hp with rfl | hp
      · exact ⟨gC, nL _ (Nat.le_of_lt (Nat.lt_trans lID lDC)), hC₀⟩
      · rcases List.mem_cons.mp hp with rfl | hp
        · exact ⟨gD, nL _ (Nat.le_of_lt lID), hD₀⟩
        · exact ⟨old2 _ _ (old1 _ _ (N p hp).1), (N p hp).2⟩
  have F₁ : Fr h₀ L h₁ m := F1.keeps old2
  have loop : ∀ s₃ : Shared, s₃ = { s with heap := h₁, toks := tkq + ([] : List (Str × Value)).length } →
      codeAny (model prog w) A (.compLoop (CC elt iter1 iter2 ct x1 x2 px1 px2 scope pos) 0 (.ref hq.objs.size) (.ref H1.objs.size) (compEnvC scope cl H2.objs.size env))
        (compPost (model prog w) A E none Q (.ref H1.objs.size) H2.objs.size) s₃ := by
    rintro s₃ rfl
    refine codeAny_loop rfl (fun n s' => ∃ h' tk i oI' oC' m' ys', s' = { s with heap := h', toks := tk } ∧ i ≤ n1 ∧ n = n1 + 1 - i ∧ Fr h₀ L h' m ∧ News h₀ L h' ((hq.objs.size, oI') :: (H2.objs.size, oC') :: (H1.objs.size, LCg.lst ys') :: news) ∧
      IsRangeIter h' hq.objs.size (0 + (i : Nat) * 1) ((n1 : Int) - (i : Nat)) 1 ∧ LCg.NsObj oC' m' ∧ StrsAre ys' ((List.range i).flatMap fun (k : Nat) => (xs.filter (tst · (k : Int))).map g)) (fun n s' hI => ?_) (n1 + 1)
      ⟨h₁, _, 0, _, oC, _, [], rfl, Nat.zero_le _, rfl, F₁, N₁, by simpa using old2 _ _ gI1, hoC, .nil⟩
    obtain ⟨h', tk, i, oI', oC', m', ys', rfl, hi, rfl, F', N', hIt', hC', hy'⟩ := hI
    show wpAny _ A ((compTurn (CC elt iter1 iter2 ct x1 x2 px1 px2 scope pos) 0 (.ref hq.objs.size) (.ref H1.objs.size) (compEnvC scope cl H2.objs.size env)).onRaise (fun x => do noteFrame x (compEnvC scope cl H2.objs.size env); theTreesLotGoes x)) _ _ _
    refine wpAny_noted ?_
    rw [compTurn_out]
    refine wpAny_bind (wpAny_standAt (wpAny_bind ?_))
    have zI := N' _ mem3.1
    have zC := N' _ mem3.2.1
    have zD' := N' _ mem3.2.2
    have W := Walks.range (prog := prog) (w := w) (A := A) hh hq.objs.size 0 1 n1
    have hyl := hy'.length
    by_cases hlt : i < n1
    · refine W.item i _ _ _ hlt hIt' fun v h₂ tk₂ hv st₂ hk₂ => ?_
      obtain ⟨tv, rfl⟩ := hv
      refine wpAny_bind (wpAny_of_eq (show letOwnedTupleGo (.Name x1 px1) (.ref hq.objs.size) (.int (0 + (i : Int) * 1) tv) = pure () from rfl) ?_)
      have hnC : h₂.Ns H2.objs.size m' := hC'.ns (hk₂ H2.objs.size oC' (by simpa using ICn.symm) zC.1)
      refine wpAny_bind (wpAny_assign_Name (wpAny_storeName_local (lookup_relabel_local hx1) hnC (fun h₃ hn₃ hs₃ => ?_) (by simp [compEnvC, relabel, hkind])))
      replace hs₃ : Heap.SameBut H2.objs.size h₂ h₃ := hs₃
      obtain ⟨oC₃, heC, hoC₃⟩ := LCg.ns_obj hn₃
      replace heC : h₃.get? H2.objs.size = some oC₃ := heC
      have heI₃ : h₃.get? hq.objs.size = some _ := hs₃.extBut _ _ ICn st₂
      have heD₃ : h₃.get? H1.objs.size = some (LCg.lst ys') := hs₃.extBut _ _ CDn.symm (hk₂ H1.objs.size _ (by simpa using IDn.symm) zD'.1)
      have F₃ : Fr h₀ L h₃ m := (LCg.fr_but F' hk₂ zI.2.1.symm zI.2.2).change hs₃ zC.2.1 zC.2.2
      have N₃ := news3 N' heI₃ heC heD₃ fun p hp e => hs₃.extBut _ _ (apN p hp).2.1 (hk₂ _ _ (by simpa using (apN p hp).1) e)
      refine wpAny_bind (wpAny_mono (it2 _ _ _ _ _ _ _ h₃ _ _ hoC₃ F₃ N₃) (fun v s₄ h₄ => ?_) fun _ _ e => e)
      obtain ⟨rfl, h₄, tk₄, rfl, F₄, N₄⟩ := h₄
      refine wpAny_bind (wpAny_standAt (wpAny_bind (wpAny_of_eq (hs2 _ _) (wpAny_bind (wpAny_holding ?_)))))
      have hL₄ : h₄.IsList ax vs.toArray := PySem.IsL.isList (n := nn) (N₄ (ax, listOf vs.toArray nn) (List.mem_cons_of_mem _ (List.mem_cons_of_mem _ (List.mem_cons_of_mem _ hax)))).1
      refine wpAny_pyIter_list hL₄ ?_
      have up : ∀ b o, h₄.get? b = some o → (h₄.push { cls := .type "list_iterator", data := .fields #[.ref ax, .int 0 0] }).get? b = some o := fun b o e => Heap.get?_push_of_some _ e
      have lt4 : ∀ p ∈ (hq.objs.size, _) :: (H2.objs.size, oC₃) :: (H1.objs.size, LCg.lst ys') :: news, p.1 < h₄.objs.size := fun p hp => Heap.lt_size (N₄ p hp).1
      have gI2 : (h₄.push { cls := .type "list_iterator", data := .fields #[.ref ax, .int 0 0] }).get? h₄.objs.size = some { cls := .type "list_iterator", data := .fields #[.ref ax, .int 0 0] } := Heap.get?_push_size _ rfl
      have ap2 : Apart3 h₄.objs.size H2.objs.size H1.objs.size ((hq.objs.size, _) :: news) := ⟨Nat.ne_of_gt (lt4 _ mem3.2.1), Nat.ne_of_gt (lt4 _ mem3.2.2), CDn, fun p hp => by
        rcases List.mem_cons.mp hp with rfl | hp
        · exact ⟨Nat.ne_of_lt (lt4 _ mem3.1), ICn, IDn⟩
        · exact ⟨Nat.ne_of_lt (lt4 _ (List.mem_cons_of_mem _ (List.mem_cons_of_mem _ (List.mem_cons_of_mem _ hp)))), (apN p hp).2⟩⟩
      have N₅ : News h₀ L (h₄.push { cls := .type "list_iterator", data := .fields #[.ref ax, .int 0 0] }) ((h₄.objs.size, { cls := .type "list_iterator", data := .fields #[.ref ax, .int 0 0] }) :: (H2.objs.size, oC₃) :: (H1.objs.size, LCg.lst ys') :: (hq.objs.size, _) :: news) := fun p hp => by
        rcases List.mem_cons.mp hp with rfl | hp
        · exact ⟨gI2, Nat.ne_of_gt F₄.ns.lt, next_is_new F₄⟩
        · have z := N₄ p (by
            rcases List.mem_cons.mp hp with q | hp
            · rw [q]; exact mem3.2.1
            · rcases List.mem_cons.mp hp with q | hp
              · rw [q]; exact mem3.2.2
              · rcases List.mem_cons.mp hp with q | hp
                · rw [q]; exact mem3.1
                · exact List.mem_cons_of_mem _ (List.mem_cons_of_mem _ (List.mem_cons_of_mem _ hp)))
          exact ⟨up _ _ z.1, z.2⟩
      have hk1 : (fun y => if y = x1 then some (Value.int (0 + (i : Int) * 1) tv) else m' y) x1 = some (.int (i : Int) tv) := by
        show (if x1 = x1 then _ else m' x1) = _
        rw [if_pos rfl]; congr 2; omega
      have hyl2 : ((List.range i).flatMap fun (k : Nat) => (xs.filter (tst · (k : Int))).map g).length ≤ i * 1000 := by
        clear hy' hyl
        generalize i = q
        induction q with
        | zero => simp
        | succ q ih =>
          rw [List.range_succ, List.flatMap_append, List.length_append]
          have : (List.flatMap (fun (k : Nat) => (xs.filter (tst · (k : Int))).map g) [q]).length ≤ 1000 := by
            simp only [List.flatMap_cons, List.flatMap_nil, List.append_nil, List.length_map]
            exact Nat.le_trans (List.length_filter_le _ _) hxl
          omega
      refine wpAny_bind (wpAny_runOwn (compStart_in1 (ax := ax) (j := 0) ⟨_, gI2, rfl, rfl⟩ ?_))
      exact inner2 (s := s) (k := (i : Int)) (tk₁ := tk₄)
        tst g hh (List.mem_cons_of_mem _ hax) hS hkind hx2 hx12 ap2 (fun x t t' oI oC oD m₂ h tk E' a1 a2 a3 a4 a5 a6 => test _ _ _ _ _ _ x t t' oI oC oD m₂ h tk E' a1 a2 a3 a4 a5 a6) (fun x t' oI oC oD m₂ h tk E' a1 a2 a3 a4 a5 => el _ _ _ _ _ x t' oI oC oD m₂ h tk E' a1 a2 a3 a4 a5) hy' (by omega)
        (F₄.push _) N₅ ⟨_, gI2, rfl, rfl⟩ hoC₃ hk1
        (fun ys₆ oC₆ m₆ t₆ h₆ tk₆ hy₆ hC₆ hk₆ F₆ N₆ => by
          refine wpAny_pure ⟨rfl, n1 + 1 - (i + 1), by omega, h₆, tk₆, i + 1, rgObj (0 + ((i + 1 : Nat) : Int) * 1) ((n1 : Int) - ((i + 1 : Nat) : Int)) 1, oC₆, m₆, ys₆, rfl, hlt, rfl, F₆, ?_, ?_, hC₆, ?_⟩
          · intro p hp
            refine N₆ p ?_
            rcases List.mem_cons.mp hp with q | hp
            · rw [q]; exact List.mem_cons_of_mem _ (List.mem_cons_of_mem _ List.mem_cons_self)
            · rcases List.mem_cons.mp hp with q | hp
              · rw [q]; exact List.mem_cons_self
              · rcases List.mem_cons.mp hp with q | hp
                · rw [q]; exact List.mem_cons_of_mem _ List.mem_cons_self
                · exact List.mem_cons_of_mem _ (List.mem_cons_of_mem _ (List.mem_cons_of_mem _ hp))
          · exact (N₆ _ (List.mem_cons_of_mem _ (List.mem_cons_of_mem _ List.mem_cons_self))).1
          · rw [List.range_succ, List.flatMap_append]
            simpa using hy₆)
    · have ei : i = n1 := by omega
      subst ei
      refine W.done _ _ _ hIt' fun h₂ tk₂ hk₂ => ?_
      refine wpAny_pure ⟨m', hC'.ns (hk₂ H2.objs.size oC' (by simpa using ICn.symm) zC.1), fun h₃ hs₃ => ?_⟩
      have F₂ := LCg.fr_but F' hk₂ zI.2.1.symm zI.2.2
      refine fin H1.objs.size ys' h₃ tk₂ hy' (F₂.change hs₃ zC.2.1 zC.2.2) (fun p hp => ?_) (fun p hp => (apN p hp).2.2)
      rcases List.mem_cons.mp hp with rfl | hp
      · exact ⟨hs₃.extBut _ _ CDn.symm (hk₂ _ _ (by simpa using IDn.symm) zD'.1), zD'.2⟩
      · have z := N' p (List.mem_cons_of_mem _ (List.mem_cons_of_mem _ (List.mem_cons_of_mem _ hp)))
        exact ⟨hs₃.extBut _ _ (apN p hp).2.1 (hk₂ _ _ (by simpa using (apN p hp).1) z.1), z.2⟩
  refine codeAny_compStart_list (loop _ rfl) (wpAny_pyIter_rangeiter (x := 0) (left := (n1 : Int)) (step := 1) (old2 _ _ gI1) (loop _ rfl))
end
end Mine
end
section
open PySem PySem.W PyProof.Rows
namespace Mine
theorem size_up1 {k : Nat} (hk : 0 < k) : Builtin.Range.rangeSize 1 (k : Int) 1 = ((k - 1 : Nat) : Int) := by rw [rangeSize_one]; split <;> omega
theorem small_up1 {k : Nat} (h0 : 0 < k) (hk : k ≤ 2 ^ 20) : Builtin.Range.small 1 (k : Int) 1 = true := by
  unfold Builtin.Range.small
  rw [size_up1 h0, fits_small (k := (k : Int)) (by omega) (by omega), fits_small (k := ((k - 1 : Nat) : Int)) (by omega) (by omega)]
  have e : (k : Int) + (1 - 1) = k := by omega
  rw [if_pos (by decide), e, fits_small (k := (k : Int)) (by omega) (by omega)]
  simp
  decide
section
variable {prog : Program} {w : World} {A : Around} {E : Value → Shared → Prop} {s : Shared} {env : Env} {h₀ : Heap} {x : Str} {body : List Stmt} {Q : Flow → Shared → Prop}
/-- a for loop over a range with step 1, by an invariant over its turns -/
theorem range_invN {r : Addr} {a₀ b₀ : Int} {t₀ u₀ v₀ : Tok} {n : Nat} {m₀ : Str → Option Value} {news : List (Addr × Obj)} (J : Nat → (Str → Option Value) → List (Addr × Obj) → Prop)
    (hh : A.handled = none) (hr : IsRange s.heap r a₀ b₀ 1 t₀ u₀ v₀) (hsmall : Builtin.Range.small a₀ b₀ 1 = true) (hn : Builtin.Range.rangeSize a₀ b₀ 1 = (n : Int)) (F : Fr h₀ env.locals s.heap m₀) (N : News h₀ env.locals s.heap news) (hj : J 0 m₀ news)
    (turn : ∀ i t m₁ news₁ h tk own, i < n → news₁.map (·.1) = news.map (·.1) → OwnOff own (news.map (·.1)) → J i m₁ news₁ → Fr h₀ env.locals h (fun y => if y = x then some (.int (a₀ + (i : Int)) t) else m₁ y) → News h₀ env.locals h (news₁ ++ own) →
      wpAny (model prog w) A (execs body env) (InvPostN h₀ env.locals (J (i + 1)) own (news.map (·.1)) { s with heap := h, toks := tk } Q) E { s with heap := h, toks := tk })
    (done : ∀ m₁ news₁ h tk, J n m₁ news₁ → Fr h₀ env.locals h m₁ → News h₀ env.locals h news₁ → Q .next { s with heap := h, toks := tk }) :
    wpAny (model prog w) A (pyIter (.ref r)) (fun it s₂ => LoopAtV prog w A h₀ env x body Q E it s₂) E s := by
  refine wpAny_pyIter_range hr hsmall ?_
  refine loop_invN J (Walks.range hh _ a₀ 1 n) ?_ ?_ ?_ ?_ (by show IsRangeIter _ _ _ _ _; rw [hn]; simpa using Heap.get?_push_size _ rfl) (F.push _) (fun p hp => ⟨Heap.get?_push_of_some _ (N p hp).1, (N p hp).2⟩) hj ?_ ?_
  · intro hm
    exact absurd F.ns.lt ((List.mem_singleton.mp hm) ▸ Nat.lt_irrefl _)
  · intro b hb
    rw [List.mem_singleton.mp hb]
    exact next_is_new F
  · intro p hp hI
    exact absurd (Heap.lt_size (N p hp).1) ((List.mem_singleton.mp hI) ▸ Nat.lt_irrefl _)
  · intro p hp hI
    exact absurd (Heap.lt_size (N p hp).1) ((List.mem_singleton.mp hI) ▸ Nat.lt_irrefl _)
  · rintro i v m₁ nx h tk own hi ⟨t, rfl⟩ ha hoff hJ F₁ N₁
    have e1 : a₀ + (i : Int) * 1 = a₀ + (i : Int) := by omega
    rw [e1] at F₁
    exact turn i t m₁ nx h tk own hi ha hoff hJ F₁ N₁
  · intro m₁ nx h tk hJ F₁ N₁
    exact done m₁ nx h tk hJ F₁ N₁
end
theorem fdivm1 {prog : Program} {w : World} {A : Around} {E : Value → Shared → Prop} {s : Shared} {k : Nat} {t u : Tok} {Q : Value → Shared → Prop} (hk : 0 < k) (h : Q (.int (((k - 1) / 2 : Nat) : Int) s.toks) { s with toks := s.toks + 1 }) :
    wpAny (model prog w) A (binaryOp .FloorDiv (.int ((k : Int) - 1) t) (.int 2 u)) Q E s := by
  refine floordiv_int (by decide) ?_
  have e : ((k : Int) - 1).fdiv 2 = (((k - 1) / 2 : Nat) : Int) := by
    rw [Int.fdiv_eq_ediv_of_nonneg _ (by decide)]; omega
  rw [e]; exact h
theorem le_of_all {tc : List Str} (h : ∀ x ∈ tc, x.length ≤ 1000) (i : Nat) : (tc.getD i Str.empty).length ≤ 1000 := by
  by_cases hi : i < tc.length
  · rw [List.getD_eq_getElem?_getD, List.getElem?_eq_getElem hi]; exact h _ (List.getElem_mem hi)
  · rw [List.getD_eq_getElem?_getD, List.getElem?_eq_none (by omega)]; show Str.empty.length ≤ 1000; decide
theorem swp3 {α : Type} {a b p : α} {r : List α} (h : p ∈ a :: b :: r) : p ∈ b :: a :: r := by
  rcases List.mem_cons.mp h with q | h
  · exact List.mem_cons_of_mem _ (List.mem_cons.mpr (.inl q))
  · rcases List.mem_cons.mp h with q | h
    · exact List.mem_cons.mpr (.inl q)
    · exact List.mem_cons_of_mem _ (List.mem_cons_of_mem _ h)
theorem take_map_succ {f : Str → Str} {l : List Str} {i : Nat} {x : Str} (h : l[i]? = some x) : (l.map f).take (i + 1) = (l.map f).take i ++ [f x] := by
  rw [List.take_add_one, List.getElem?_map, h]; rfl
theorem strs_at : ∀ {vs : List Value} {xs : List Str} {i : Nat} {v : Value}, StrsAre vs xs → vs[i]? = some v → ∃ x t, v = .str x t ∧ xs[i]? = some x
  | _, _, 0, _, .cons x t _, h => ⟨x, t, by simpa using h.symm, rfl⟩
  | _, _, i + 1, _, .cons x t r, h => by
    obtain ⟨y, u, e1, e2⟩ := strs_at (i := i) r (by simpa using h)
    exact ⟨y, u, e1, by simpa using e2⟩
theorem brk1 {x y : Str} {k j : Int} (hb : slt x y = (decide (k = 2) && decide (j = 1))) (h : k = 2) (e : (decide (x.cps.toList < y.cps.toList) != (j == 1)) = true) : False := by
  unfold slt at hb
  rw [hb, decide_eq_true h, Bool.true_and] at e
  have : (j == 1) = decide (j = 1) := by simp [BEq.beq]
  rw [this] at e
  simp at e
theorem brk2 {x y : Str} {k j : Int} (hb : slt x y = (decide (k = 2) && decide (j = 1))) (h : k ≠ 2) (e : (decide (x.cps.toList < y.cps.toList) != (k == 2)) = true) : False := by
  unfold slt at hb
  rw [hb, decide_eq_false h, Bool.false_and] at e
  have : (k == 2) = false := by simpa using h
  rw [this] at e
  simp at e
end Mine
end
section
open PySem PySem.W PyProof.Rows
namespace Mine
def marks : List Str := [Str.ofString ",", Str.ofString " ", Str.ofString ". ", Str.ofString "X", Str.ofString "yY"]
theorem marks_mem {i : Nat} (h : i < marks.length) : marks.getD i Str.empty ∈ marks := by
  rw [List.getD_eq_getElem?_getD, List.getElem?_eq_getElem h]; exact List.getElem_mem h
def moved (qs : List Str) : List Str := (List.range 4).flatMap fun (k : Nat) => (qs.filter fun x => decide (kindI x = (k : Int))).map great
/-- all that the walk asks of the plain lists -/
structure PureFacts (mk : Str) (zs qs : List Str) : Prop where
  hm : 0 < mk.length
  hm2 : mk.length ≤ 16
  hsp : Txt.split (Txt.join mk (heapify slt zs)) mk = heapify slt zs
  hsp2 : Txt.split (Txt.join mk ((heapify slt zs).map Txt.capitalize)) mk = (heapify slt zs).map great
  hjl : (Txt.join mk (heapify slt zs)).length ≤ 10000
  hjl2 : (Txt.join mk ((heapify slt zs).map Txt.capitalize)).length ≤ 10000
  hsum : ((heapify slt zs).map (·.length)).sum ≤ 10000
  hqw : ∀ x ∈ qs, x.length ≤ 1000
  htw : ∀ x ∈ heapify slt zs, x.length ≤ 1000
  hokq : StrsOk qs
  hokr : StrsOk ((heapify slt zs).map great)
  hok : StrsOk (moved qs)
  hbr : ∀ i, 0 < i → i < (heapify slt zs).length → slt (((heapify slt zs).map great).getD i Str.empty) (((heapify slt zs).map great).getD ((i - 1) / 2) Str.empty) = (decide (kindI ((heapify slt zs).getD ((i - 1) / 2) Str.empty) = 2) && decide (kindI ((heapify slt zs).getD i Str.empty) = 1))
  hp0 : popAll slt zs.length (heapify slt zs) = qs
  hso : ∀ ss, ss.Perm zs → sortedS ss = true → ss = qs
  hp : popAll slt zs.length (heapify slt ((heapify slt zs).map great)) = moved qs
  hp2 : popAll sgt zs.length (heapify sgt ((heapify slt zs).map great)) = (moved qs).reverse
def base7 : List Str := [Str.ofString "b", Str.ofString "_a", Str.ofString "ab", Str.ofString "3", Str.ofString "^", Str.ofString "~", Str.ofString "a"]
theorem base7_ok : ∀ z ∈ base7, WordOk z := by
  have h : ∀ z ∈ base7, (decide (z.length ≤ 3) && z.cps.toList.all fun c => [97, 98, 95, 51, 45, 94, 126].contains c) = true := by decide +kernel
  intro z hz
  have := h z hz
  rw [Bool.and_eq_true] at this
  exact ⟨of_decide_eq_true this.1, fun c hc => by simpa using (List.all_eq_true.mp this.2 c hc)⟩
end Mine
end
section
open PySem PySem.W PyProof.Rows
namespace Mine
/-- a strict order whose negation is a total preorder -/
structure Ord (lt : Str → Str → Bool) : Prop where
  refl : ∀ a, lt a a = false
  trans : ∀ {a b c}, lt b a = false → lt c b = false → lt c a = false
  asymm : ∀ {a b}, lt a b = true → lt b a = false
theorem gset {h : List Str} {i : Nat} {x : Str} (hi : i < h.length) : (h.set i x).getD i Str.empty = x := by
  simp [List.getD_eq_getElem?_getD, List.getElem?_set, hi]
theorem gset_ne {h : List Str} {i j : Nat} {x : Str} (hij : i ≠ j) : (h.set i x).getD j Str.empty = h.getD j Str.empty := by
  simp [List.getD_eq_getElem?_getD, List.getElem?_set, hij]
theorem gget {h : List Str} {i : Nat} (hi : i < h.length) : h.getD i Str.empty = h[i] := by
  rw [List.getD_eq_getElem?_getD, List.getElem?_eq_getElem hi]; rfl
theorem swap_perm {h : List Str} {i j : Nat} {x : Str} (hi : i < h.length) (hj : j < h.length) (hij : i ≠ j) : ((h.set i (h.getD j Str.empty)).set j x).Perm (h.set i x) := by
  have k := List.set_set_perm (as := h.set i x) (i := i) (j := j) (by rw [List.length_set]; exact hi) (by rw [List.length_set]; exact hj)
  rw [← gget (by rw [List.length_set]; exact hj), ← gget (by rw [List.length_set]; exact hi), gset hi, gset_ne hij, List.set_set] at k
  exact k
/-- the edges below the places from s on stand well -/
def HeapFrom (lt : Str → Str → Bool) (s : Nat) (h : List Str) : Prop := ∀ i, i < h.length → 0 < i → s ≤ (i - 1) / 2 → lt (h.getD i Str.empty) (h.getD ((i - 1) / 2) Str.empty) = false
inductive Anc (p : Nat) : Nat → Prop
  | refl : Anc p p
  | left {q : Nat} : Anc p q → Anc p (2 * q + 1)
  | right {q : Nat} : Anc p q → Anc p (2 * q + 2)
theorem Anc.ge {p q : Nat} (h : Anc p q) : p ≤ q := by induction h <;> omega
theorem Anc.up {p q : Nat} (h : Anc p q) (hq : p < q) : Anc p ((q - 1) / 2) := by
  cases h with
  | refl => omega
  | @left r h => rw [show (2 * r + 1 - 1) / 2 = r by omega]; exact h
  | @right r h => rw [show (2 * r + 2 - 1) / 2 = r by omega]; exact h
section
variable {lt : Str → Str → Bool}
theorem sdLoop_perm (new : Str) (start : Nat) : ∀ (pos : Nat) (h : List Str), pos < h.length → (sdLoop lt new start h pos).Perm (h.set pos new) := by
  intro pos
  induction pos using Nat.strongRecOn with
  | _ pos ih =>
    intro h hp
    rw [sdLoop]
    split
    · split
      · have e := ih ((pos - 1) / 2) (by omega) (h.set pos (h.getD ((pos - 1) / 2) Str.empty)) (by rw [List.length_set]; omega)
        exact e.trans (swap_perm hp (by omega) (by omega))
      · exact List.Perm.refl _
    · exact List.Perm.refl _
theorem sdLoop_stale (new x : Str) {start pos : Nat} {h : List Str} : sdLoop lt new start (h.set pos x) pos = sdLoop lt new start h pos := by
  conv => lhs; rw [sdLoop]
  conv => rhs; rw [sdLoop]
  split
  · rw [gset_ne (by omega), List.set_set, List.set_set]
  · rw [List.set_set]
theorem sdLoop_heap (O : Ord lt) (new : Str) (p : Nat) : ∀ (pos : Nat) (h : List Str), pos < h.length → Anc p pos → HeapFrom lt p h → (∀ j, j < h.length → 0 < j → (j - 1) / 2 = pos → lt (h.getD j Str.empty) new = false) → HeapFrom lt p (sdLoop lt new p h pos) := by
  intro pos
  induction pos using Nat.strongRecOn with
  | _ pos ih =>
    intro h hp ha hh hc
    have last : ((p < pos) → lt new (h.getD ((pos - 1) / 2) Str.empty) = false) → HeapFrom lt p (h.set pos new) := by
      intro hx i hi h0 hs
      rw [List.length_set] at hi
      by_cases e1 : i = pos
      · subst e1
        rw [gset hp, gset_ne (by omega)]
        exact hx (by omega)
      · rw [gset_ne (fun e => e1 e.symm)]
        by_cases e2 : (i - 1) / 2 = pos
        · rw [e2, gset hp]; exact hc i hi h0 e2
        · rw [gset_ne (fun e => e2 e.symm)]; exact hh i hi h0 hs
    rw [sdLoop]
    split
    · rename_i hlt
      have hpar := (ha.up hlt)
      have hge := hpar.ge
      split
      · rename_i hn
        refine ih ((pos - 1) / 2) (by omega) _ (by rw [List.length_set]; omega) hpar ?_ ?_
        · intro i hi h0 hs
          rw [List.length_set] at hi
          by_cases e1 : i = pos
          · subst e1
            rw [gset hp, gset_ne (by omega)]
            exact O.refl _
          · rw [gset_ne (fun e => e1 e.symm)]
            by_cases e2 : (i - 1) / 2 = pos
            · rw [e2, gset hp]
              have a := hh pos hp (by omega) hge
              have b := hh i hi h0 hs
              rw [e2] at b
              exact O.trans a b
            · rw [gset_ne (fun e => e2 e.symm)]; exact hh i hi h0 hs
        · intro j hj h0 hjp
          rw [List.length_set] at hj
          by_cases e1 : j = pos
          · subst e1
            rw [gset hp]
            exact O.asymm hn
          · rw [gset_ne (fun e => e1 e.symm)]
            have b := hh j hj h0 (by omega)
            rw [hjp] at b
            exact O.trans (O.asymm hn) b
      · rename_i hn
        exact last fun _ => by simpa using hn
    · exact last fun h => absurd h (by assumption)
theorem pick_cases (h : List Str) (c : Nat) : pick lt h c = c ∨ (pick lt h c = c + 1 ∧ c + 1 < h.length) := by
  unfold pick
  split
  · rename_i q; exact .inr ⟨rfl, q.1⟩
  · exact .inl rfl
theorem pick_le (O : Ord lt) {h : List Str} {c j : Nat} (hc : c < h.length) (hj : j < h.length) (e : j = c ∨ j = c + 1) : lt (h.getD j Str.empty) (h.getD (pick lt h c) Str.empty) = false := by
  unfold pick
  split
  · rename_i q
    rcases e with rfl | rfl
    · exact q.2
    · exact O.refl _
  · rename_i q
    rcases e with rfl | rfl
    · exact O.refl _
    · cases hh : lt (h.getD c Str.empty) (h.getD (c + 1) Str.empty) with
      | false => exact absurd ⟨hj, hh⟩ q
      | true => exact O.asymm hh
theorem suLoop_all (O : Ord lt) (p : Nat) : ∀ (k : Nat) (h : List Str) (pos : Nat) (new : Str), h.length - pos = k → pos < h.length → Anc p pos → HeapFrom lt (p + 1) h → (p < pos → HeapFrom lt p h) →
    (((suLoop lt h pos (2 * pos + 1)).1.set (suLoop lt h pos (2 * pos + 1)).2 new).Perm (h.set pos new)) ∧ (suLoop lt h pos (2 * pos + 1)).2 < h.length ∧ h.length ≤ 2 * (suLoop lt h pos (2 * pos + 1)).2 + 1 ∧ Anc p (suLoop lt h pos (2 * pos + 1)).2 ∧ HeapFrom lt p (suLoop lt h pos (2 * pos + 1)).1 ∧ (suLoop lt h pos (2 * pos + 1)).1.length = h.length := by
  intro k
  induction k using Nat.strongRecOn with
  | _ k ih =>
    intro h pos new hk hp ha h1 h2
    rw [suLoop]
    split
    · rename_i hlt
      have hc := pick_cases (lt := lt) h (2 * pos + 1)
      have hle : ∀ j, j < h.length → j = 2 * pos + 1 ∨ j = 2 * pos + 1 + 1 → lt (h.getD j Str.empty) (h.getD (pick lt h (2 * pos + 1)) Str.empty) = false := fun j hj e => pick_le O hlt hj e
      have hanc : Anc p (pick lt h (2 * pos + 1)) := by
        rcases hc with e | ⟨e, _⟩
        · rw [e]; exact ha.left
        · rw [e]; exact ha.right
      generalize pick lt h (2 * pos + 1) = c at hc hle hanc
      have hcl : c < h.length := by rcases hc with e | ⟨e, q⟩ <;> omega
      have hcp : (c - 1) / 2 = pos := by rcases hc with e | ⟨e, q⟩ <;> omega
      have hpc : pos < c := by rcases hc with e | ⟨e, q⟩ <;> omega
      have hge := ha.ge
      have hheap : HeapFrom lt p (h.set pos (h.getD c Str.empty)) := by
        intro i hi h0 hs
        rw [List.length_set] at hi
        by_cases e1 : i = pos
        · subst e1
          rw [gset hp, gset_ne (by omega)]
          have a := h2 (by omega) c hcl (by omega) (by omega)
          have b := h2 (by omega) i hp h0 hs
          rw [hcp] at a
          exact O.trans b a
        · rw [gset_ne (fun e => e1 e.symm)]
          by_cases e2 : (i - 1) / 2 = pos
          · rw [e2, gset hp]
            exact hle i hi (by omega)
          · rw [gset_ne (fun e => e2 e.symm)]
            by_cases e3 : p < pos
            · exact h2 e3 i hi h0 hs
            · exact h1 i hi h0 (by omega)
      have I := ih (h.length - c) (by omega) (h.set pos (h.getD c Str.empty)) c new (by rw [List.length_set]) (by rw [List.length_set]; exact hcl) hanc (fun i hi h0 hs => hheap i hi h0 (by omega)) (fun _ => hheap)
      obtain ⟨i1, i2, i3, i4, i5, i6⟩ := I
      rw [List.length_set] at i2 i3 i6
      exact ⟨i1.trans (swap_perm hp hcl (by omega)), i2, i3, i4, i5, i6⟩
    · rename_i hlt
      refine ⟨List.Perm.refl _, hp, by show h.length ≤ 2 * pos + 1; omega, ha, ?_, rfl⟩
      show HeapFrom lt p h
      by_cases e : p < pos
      · exact h2 e
      · have := ha.ge
        intro i hi h0 hs
        exact h1 i hi h0 (by omega)
theorem siftup_all (O : Ord lt) {h : List Str} {p : Nat} (hp : p < h.length) (h1 : HeapFrom lt (p + 1) h) : (siftup lt h p).Perm h ∧ HeapFrom lt p (siftup lt h p) := by
  obtain ⟨i1, i2, i3, i4, i5, i6⟩ := suLoop_all O p _ h p (h.getD p Str.empty) rfl hp .refl h1 (fun e => absurd e (Nat.lt_irrefl _))
  unfold siftup siftdown
  generalize suLoop lt h p (2 * p + 1) = r at i1 i2 i3 i4 i5 i6
  rw [gset (by omega), sdLoop_stale]
  have hs : h.set p (h.getD p Str.empty) = h := by rw [gget hp]; exact List.set_getElem_self hp
  rw [hs] at i1
  refine ⟨(sdLoop_perm _ _ _ _ (by omega)).trans i1, sdLoop_heap O _ p _ _ (by omega) i4 i5 ?_⟩
  intro j hj h0 e
  omega
theorem hfy_all (O : Ord lt) : ∀ (k : Nat) (h : List Str), k ≤ h.length → HeapFrom lt k h → (hfy lt k h).Perm h ∧ HeapFrom lt 0 (hfy lt k h)
  | 0, h, _, hh => ⟨List.Perm.refl _, hh⟩
  | k + 1, h, hk, hh => by
    have s := siftup_all O (p := k) (by omega) hh
    have r := hfy_all O k (siftup lt h k) (by rw [siftup_length]; omega) s.2
    exact ⟨r.1.trans s.1, r.2⟩
theorem heapify_all (O : Ord lt) (h : List Str) : (heapify lt h).Perm h ∧ HeapFrom lt 0 (heapify lt h) :=
  hfy_all O _ h (by omega) (fun i hi h0 hs => by omega)
theorem root_least (O : Ord lt) {h : List Str} (hh : HeapFrom lt 0 h) : ∀ i, i < h.length → lt (h.getD i Str.empty) (h.getD 0 Str.empty) = false := by
  intro i
  induction i using Nat.strongRecOn with
  | _ i ih =>
    intro hi
    by_cases h0 : i = 0
    · subst h0; exact O.refl _
    · exact O.trans (ih ((i - 1) / 2) (by omega) (by omega)) (hh i hi (by omega) (Nat.zero_le _))
theorem pop_all (O : Ord lt) {h : List Str} (h0 : 0 < h.length) (hh : HeapFrom lt 0 h) : (popTop h :: popRest lt h).Perm h ∧ HeapFrom lt 0 (popRest lt h) ∧ (∀ x ∈ h, lt x (popTop h) = false) := by
  have hmin : ∀ x ∈ h, lt x (h.getD 0 Str.empty) = false := by
    intro x hx
    obtain ⟨i, hi, rfl⟩ := List.mem_iff_getElem.mp hx
    rw [← gget hi]
    exact root_least O hh i hi
  by_cases h1 : h.length ≤ 1
  · have e1 : popTop h = h.getD 0 Str.empty := by unfold popTop; rw [if_pos h1]; congr 1; omega
    have e2 : popRest lt h = h.dropLast := by unfold popRest; rw [if_pos h1]
    rw [e1, e2]
    match h, h0, h1 with
    | [a], _, _ => exact ⟨List.Perm.refl _, fun i hi => absurd hi (Nat.not_lt_zero i), hmin⟩
  · have e1 : popTop h = h.getD 0 Str.empty := by unfold popTop; rw [if_neg h1]
    have e2 : popRest lt h = siftup lt (h.dropLast.set 0 (h.getD (h.length - 1) Str.empty)) 0 := by unfold popRest; rw [if_neg h1]
    have hdl : h.dropLast.length = h.length - 1 := List.length_dropLast
    have gdl : ∀ i, i < h.length - 1 → h.dropLast.getD i Str.empty = h.getD i Str.empty := by
      intro i hi
      rw [gget (by omega), gget (by omega), List.getElem_dropLast]
    have s := siftup_all O (h := h.dropLast.set 0 (h.getD (h.length - 1) Str.empty)) (p := 0) (by rw [List.length_set]; omega) (by
      intro i hi h0' hs
      rw [List.length_set] at hi
      rw [gset_ne (by omega), gset_ne (by omega), gdl i (by omega), gdl _ (by omega)]
      exact hh i (by omega) h0' (by omega))
    rw [e1, e2]
    refine ⟨?_, s.2, hmin⟩
    refine (List.Perm.cons _ s.1).trans ?_
    match h, h1 with
    | a :: b :: r, _ =>
      show (a :: (((b :: r).getLast (by simp) |> fun _ => (a :: b :: r).dropLast.set 0 ((a :: b :: r).getD ((a :: b :: r).length - 1) Str.empty)))).Perm (a :: b :: r)
      refine List.Perm.cons _ ?_
      have hl : (a :: b :: r).getD ((a :: b :: r).length - 1) Str.empty = (b :: r).getLast (by simp) := by
        rw [gget (by simp), List.getLast_eq_getElem]
        simp
      have hd : (a :: b :: r).dropLast = a :: (b :: r).dropLast := rfl
      rw [hl, hd]
      show ((b :: r).getLast _ :: (b :: r).dropLast).Perm (b :: r)
      have e : (b :: r).dropLast ++ [(b :: r).getLast (by simp)] = b :: r := List.dropLast_concat_getLast (by simp)
      have k := List.perm_append_comm (l₁ := [(b :: r).getLast (by simp)]) (l₂ := (b :: r).dropLast)
      rw [e] at k
      exact k
theorem popAll_all (O : Ord lt) : ∀ (n : Nat) (h : List Str), h.length = n → HeapFrom lt 0 h → (popAll lt n h).Perm h ∧ (popAll lt n h).Pairwise (fun a b => lt b a = false)
  | 0, h, hl, _ => by
    have : h = [] := List.length_eq_zero_iff.mp hl
    subst this
    exact ⟨List.Perm.refl _, List.Pairwise.nil⟩
  | n + 1, h, hl, hh => by
    obtain ⟨p1, p2, p3⟩ := pop_all O (by omega) hh
    obtain ⟨r1, r2⟩ := popAll_all O n (popRest lt h) (by rw [popRest_length]; omega) p2
    refine ⟨(List.Perm.cons _ r1).trans p1, List.Pairwise.cons ?_ r2⟩
    intro x hx
    exact p3 x (p1.subset (List.mem_cons_of_mem _ (r1.subset hx)))
theorem sort_all (O : Ord lt) (xs : List Str) : (popAll lt xs.length (heapify lt xs)).Perm xs ∧ (popAll lt xs.length (heapify lt xs)).Pairwise (fun a b => lt b a = false) := by
  have h := heapify_all O xs
  have p := popAll_all O xs.length (heapify lt xs) (heapify_length lt xs) h.2
  exact ⟨p.1.trans h.1, p.2⟩
end
end Mine
end
section
open PySem PySem.W PyProof.Rows PySem.StrLaws PySem.Builtin PySem.Builtin.Str
namespace Mine
theorem slen_eq (x : PySem.Str) : x.cps.toList.length = x.length := by simp [PySem.Str.length]
section
variable {x y : PySem.Str} {c0 : Nat} {y' : List Nat}
theorem at_head {k : Nat} (hy : y.cps.toList = c0 :: y') (h : At x y x.length k) : x.cps.toList[k]? = some c0 := by
  have h2 := h.2
  rw [subAt_eq] at h2
  have e := eq_of_beq h2
  have hl : 0 < y.length := by rw [← slen_eq, hy]; exact Nat.succ_pos _
  have k0 : ((x.cps.toList.drop k).take y.length)[0]? = some c0 := by rw [e, hy]; rfl
  rw [List.getElem?_take_of_lt hl, List.getElem?_drop] at k0
  simpa using k0
theorem at_of {k : Nat} {rest : List Nat} (hy : y.cps.toList = c0 :: y') (e : x.cps.toList.drop k = y.cps.toList ++ rest) : At x y x.length k := by
  have hl : 0 < y.length := by rw [← slen_eq, hy]; exact Nat.succ_pos _
  have el := congrArg List.length e
  rw [List.length_drop, List.length_append, slen_eq, slen_eq] at el
  refine ⟨by omega, ?_⟩
  rw [subAt_eq, e, ← slen_eq y, List.take_left]
  exact beq_self_eq_true _
theorem not_at {w : List Nat} {rest : List Nat} {a k : Nat} (hy : y.cps.toList = c0 :: y') (hw : c0 ∉ w) (e : x.cps.toList.drop a = w ++ rest) (h1 : a ≤ k) (h2 : k < a + w.length) : ¬ At x y x.length k := by
  intro h
  have q := at_head hy h
  have e2 : x.cps.toList[k]? = (x.cps.toList.drop a)[k - a]? := by rw [List.getElem?_drop]; congr 1; omega
  rw [e2, e, List.getElem?_append_left (by omega)] at q
  exact hw (List.mem_of_getElem? q)
theorem parts_join (hy : y.cps.toList = c0 :: y') : ∀ (r : List PySem.Str) (w : PySem.Str) (a : Nat) (cuts : List Nat) (f : Nat), (∀ v ∈ w :: r, c0 ∉ v.cps.toList) → a ≤ x.length → x.cps.toList.drop a = (PySem.Str.join y (w :: r)).cps.toList →
    ChainG x y x.length a cuts f → (∀ k, f ≤ k → ¬ At x y x.length k) → partsFrom x y.length a cuts = w :: r
  | [], w, a, cuts, f, hf, ha, e, hc, hn => by
    have e1 : x.cps.toList.drop a = w.cps.toList := e
    have hw := hf w (List.mem_singleton.mpr rfl)
    have el := congrArg List.length e1
    rw [List.length_drop, slen_eq, slen_eq] at el
    cases cuts with
    | cons c r =>
      exfalso
      have hA := hc.2.1
      have hl : 0 < y.length := by rw [← slen_eq, hy]; exact Nat.succ_pos _
      exact not_at (rest := []) hy hw (by rw [e1, List.append_nil]) hc.1 (by have := hA.1; rw [slen_eq]; omega) hA
    | nil =>
      show [strSub x a x.length] = [w]
      congr 1
      apply Str.ext'
      apply Array.toList_inj.mp
      rw [strSub_toList, e1]
      exact List.take_of_length_le (by rw [slen_eq]; omega)
  | w2 :: r, w, a, cuts, f, hf, ha, e, hc, hn => by
    have e0 : (PySem.Str.join y (w :: w2 :: r)).cps.toList = w.cps.toList ++ (y.cps.toList ++ (PySem.Str.join y (w2 :: r)).cps.toList) := by
      show (w ++ y ++ PySem.Str.join y (w2 :: r)).cps.toList = _
      simp only [Str.cps_append, Array.toList_append, List.append_assoc]
    have e1 := e.trans e0
    have hw := hf w List.mem_cons_self
    have e2 : x.cps.toList.drop (a + w.length) = y.cps.toList ++ (PySem.Str.join y (w2 :: r)).cps.toList := by
      rw [← List.drop_drop, e1, ← slen_eq w, List.drop_left]
    have hA := at_of hy e2
    cases cuts with
    | nil =>
      exfalso
      have ef : f = a := hc
      exact hn (a + w.length) (by omega) hA
    | cons c cs =>
      obtain ⟨h1, h2, h3, h4⟩ := hc
      have hcw : c = a + w.length := by
        rcases Nat.lt_trichotomy c (a + w.length) with q | q | q
        · exact absurd h2 (not_at hy hw e1 h1 (by rw [slen_eq]; exact q))
        · exact q
        · exact absurd hA (h3 _ (by omega) q)
      subst hcw
      have e3 : x.cps.toList.drop (a + w.length + y.length) = (PySem.Str.join y (w2 :: r)).cps.toList := by
        rw [← List.drop_drop, e2, ← slen_eq y, List.drop_left]
      show strSub x a (a + w.length) :: partsFrom x y.length (a + w.length + y.length) cs = _
      rw [parts_join hy r w2 _ cs f (fun v hv => hf v (List.mem_cons_of_mem _ hv)) h2.1 e3 h4 hn]
      congr 1
      apply Str.ext'
      apply Array.toList_inj.mp
      rw [strSub_toList, e1]
      have : a + w.length - a = w.cps.toList.length := by rw [slen_eq]; omega
      rw [this, List.take_left]
theorem split_join (hy : y.cps.toList = c0 :: y') (hk : PySem.Builtin.Str.strKind y = 1) {ws : List PySem.Str} (h0 : ws ≠ []) (hf : ∀ v ∈ ws, c0 ∉ v.cps.toList) : Txt.split (Txt.join y ws) y = ws := by
  have ej : Txt.join y ws = PySem.Str.join y ws := glued_eq_join _ _
  rw [ej]
  obtain ⟨w, r, rfl⟩ : ∃ w r, ws = w :: r := by cases ws with
    | nil => exact absurd rfl h0
    | cons w r => exact ⟨w, r, rfl⟩
  have hl : 0 < y.length := by rw [← slen_eq, hy]; exact Nat.succ_pos _
  obtain ⟨f, hG, hn⟩ := occ_tight (PySem.Str.join y (w :: r)) y hl
  have P := parts_join (x := PySem.Str.join y (w :: r)) hy r w 0 _ f hf (Nat.zero_le _) (by rw [List.drop_zero]) hG hn
  unfold Txt.split
  split
  · rename_i hc
    cases r with
    | nil => rfl
    | cons w2 r =>
      exfalso
      rw [Bool.or_eq_true, decide_eq_true_eq, decide_eq_true_eq] at hc
      rcases hc with q | q
      · have : (PySem.Str.join y (w :: w2 :: r)).length = w.length + y.length + (PySem.Str.join y (w2 :: r)).length := by
          show (w ++ y ++ PySem.Str.join y (w2 :: r)).length = _
          rw [Str.length_append, Str.length_append]
        omega
      · rw [hk] at q
        unfold PySem.Builtin.Str.strKind at q
        split at q
        · omega
        · split at q <;> omega
  · split
    · rename_i he
      have e0 := List.isEmpty_iff.mp he
      rw [e0] at P
      refine Eq.trans ?_ P
      show _ = [strSub _ 0 _]
      rw [sub_whole]
    · rw [partsBetween_eq]; exact P
end
end Mine
end
section
open PySem PySem.W PyProof.Rows
namespace Mine
theorem slt_ord : Ord slt where
  refl := fun a => decide_eq_false (List.lt_irrefl _)
  trans := fun {a b c} h1 h2 => decide_eq_false (by
    have e1 : ¬ b.cps.toList < a.cps.toList := of_decide_eq_false h1
    have e2 : ¬ c.cps.toList < b.cps.toList := of_decide_eq_false h2
    exact List.le_trans (l₁ := a.cps.toList) e1 e2)
  asymm := fun {a b} h => decide_eq_false (List.lt_asymm (of_decide_eq_true h))
theorem sgt_ord : Ord sgt where
  refl := fun a => slt_ord.refl a
  trans := fun h1 h2 => slt_ord.trans h2 h1
  asymm := fun h => slt_ord.asymm h
theorem slt_anti {a b : Str} (h1 : slt b a = false) (h2 : slt a b = false) : a = b := by
  have e1 : ¬ b.cps.toList < a.cps.toList := of_decide_eq_false h1
  have e2 : ¬ a.cps.toList < b.cps.toList := of_decide_eq_false h2
  exact Str.ext' (Array.toList_inj.mp (List.le_antisymm (as := a.cps.toList) e1 e2))
def upc (c : Nat) : Nat := if c = 97 then 65 else if c = 98 then 66 else c
def gl : List Nat → List Nat
  | [] => []
  | c :: t => upc c :: t
def kl : List Nat → Int
  | [] => 0
  | c :: _ => if c = 97 ∨ c = 98 then 1 else if c = 94 ∨ c = 95 then 2 else if c = 126 then 3 else 0
def chk (w : Str) : Bool := (great w).cps.toList == gl w.cps.toList && kindI w == kl w.cps.toList && Txt.capitalize w == great w && PyData.canLay0 (.str w) && PyData.canLay0 (.str (great w))
abbrev signs : List Nat := [97, 98, 95, 51, 45, 94, 126]
theorem chk0 : chk (Str.mk #[]) = true := by decide +kernel
theorem chk1 : (signs.all fun a => chk (Str.mk #[a])) = true := by decide +kernel
theorem chk2 : (signs.all fun a => signs.all fun b => chk (Str.mk #[a, b])) = true := by decide +kernel
theorem chk3 : (signs.all fun a => signs.all fun b => signs.all fun c => chk (Str.mk #[a, b, c])) = true := by decide +kernel
theorem word_chk {y : Str} (h : WordOk y) : chk y = true := by
  obtain ⟨hl, hs⟩ := h
  obtain ⟨⟨l⟩⟩ := y
  have hl' : l.length ≤ 3 := hl
  have hs' : ∀ c ∈ l, c ∈ signs := hs
  match l, hl', hs' with
  | [], _, _ => exact chk0
  | [a], _, h => exact List.all_eq_true.mp chk1 a (h a (by simp))
  | [a, b], _, h => exact List.all_eq_true.mp (List.all_eq_true.mp chk2 a (h a (by simp))) b (h b (by simp))
  | [a, b, c], _, h => exact List.all_eq_true.mp (List.all_eq_true.mp (List.all_eq_true.mp chk3 a (h a (by simp))) b (h b (by simp))) c (h c (by simp))
theorem word_all {y : Str} (h : WordOk y) : (great y).cps.toList = gl y.cps.toList ∧ kindI y = kl y.cps.toList ∧ Txt.capitalize y = great y ∧ PyData.canLay0 (.str y) = true ∧ PyData.canLay0 (.str (great y)) = true := by
  have c := word_chk h
  unfold chk at c
  simp only [Bool.and_eq_true] at c
  obtain ⟨⟨⟨⟨c1, c2⟩, c3⟩, c4⟩, c5⟩ := c
  exact ⟨eq_of_beq c1, eq_of_beq c2, eq_of_beq c3, c4, c5⟩
def HeadOk (l : List Nat) : Prop := ∀ c ∈ l, c ∈ signs
theorem same_l {u v : List Nat} (hu : HeadOk u) (hv : HeadOk v) (e : kl u = kl v) : (gl v < gl u) ↔ (v < u) := by
  cases u with
  | nil => cases v with
    | nil => exact Iff.rfl
    | cons d s => simp [gl]
  | cons c t => cases v with
    | nil => simp [gl]
    | cons d s =>
      have hc := hu c (by simp)
      have hd := hv d (by simp)
      simp only [gl, List.cons_lt_cons_iff]
      simp only [signs, List.mem_cons, List.not_mem_nil, or_false] at hc hd
      rcases hc with rfl | rfl | rfl | rfl | rfl | rfl | rfl <;> rcases hd with rfl | rfl | rfl | rfl | rfl | rfl | rfl <;> simp [kl, upc] at e ⊢
theorem less_l {u v : List Nat} (hu : HeadOk u) (hv : HeadOk v) (e : kl v < kl u) : gl v < gl u := by
  cases u with
  | nil => cases v with
    | nil => simp [kl] at e
    | cons d s =>
      exfalso
      have hd := hv d (by simp)
      simp only [signs, List.mem_cons, List.not_mem_nil, or_false] at hd
      rcases hd with rfl | rfl | rfl | rfl | rfl | rfl | rfl <;> simp [kl] at e
  | cons c t => cases v with
    | nil => simp [gl]
    | cons d s =>
      have hc := hu c (by simp)
      have hd := hv d (by simp)
      simp only [gl, List.cons_lt_cons_iff]
      simp only [signs, List.mem_cons, List.not_mem_nil, or_false] at hc hd
      rcases hc with rfl | rfl | rfl | rfl | rfl | rfl | rfl <;> rcases hd with rfl | rfl | rfl | rfl | rfl | rfl | rfl <;> simp [kl, upc] at e ⊢
theorem small_l {u v : List Nat} (hu : HeadOk u) (hv : HeadOk v) (e : kl v < kl u) (n : ¬ (kl v = 1 ∧ kl u = 2)) : v < u := by
  cases u with
  | nil => cases v with
    | nil => simp [kl] at e
    | cons d s =>
      exfalso
      have hd := hv d (by simp)
      simp only [signs, List.mem_cons, List.not_mem_nil, or_false] at hd
      rcases hd with rfl | rfl | rfl | rfl | rfl | rfl | rfl <;> simp [kl] at e
  | cons c t => cases v with
    | nil => simp
    | cons d s =>
      have hc := hu c (by simp)
      have hd := hv d (by simp)
      simp only [List.cons_lt_cons_iff]
      simp only [signs, List.mem_cons, List.not_mem_nil, or_false] at hc hd
      rcases hc with rfl | rfl | rfl | rfl | rfl | rfl | rfl <;> rcases hd with rfl | rfl | rfl | rfl | rfl | rfl | rfl <;> simp [kl] at e n ⊢
theorem same_kind {x y : Str} (hx : WordOk x) (hy : WordOk y) (e : kindI x = kindI y) : slt (great y) (great x) = slt y x := by
  unfold slt
  rw [(word_all hx).1, (word_all hy).1]
  rw [(word_all hx).2.1, (word_all hy).2.1] at e
  exact decide_eq_decide.mpr (same_l hx.2 hy.2 e)
theorem less_kind {x y : Str} (hx : WordOk x) (hy : WordOk y) (e : kindI y < kindI x) : slt (great y) (great x) = true := by
  unfold slt
  rw [(word_all hx).1, (word_all hy).1]
  rw [(word_all hx).2.1, (word_all hy).2.1] at e
  exact decide_eq_true (less_l hx.2 hy.2 e)
theorem less_small {x y : Str} (hx : WordOk x) (hy : WordOk y) (e : kindI y < kindI x) (n : ¬ (kindI y = 1 ∧ kindI x = 2)) : slt y x = true := by
  unfold slt
  rw [(word_all hx).2.1, (word_all hy).2.1] at e n
  exact decide_eq_true (small_l hx.2 hy.2 e n)
theorem kind_cases (x : Str) : kindI x = 0 ∨ kindI x = 1 ∨ kindI x = 2 ∨ kindI x = 3 := by
  unfold kindI
  split
  · exact .inr (.inl rfl)
  · split
    · exact .inr (.inr (.inl rfl))
    · split
      · exact .inr (.inr (.inr rfl))
      · exact .inl rfl
theorem break_law {x y : Str} (hx : WordOk x) (hy : WordOk y) (h : slt y x = false) : slt (great y) (great x) = (decide (kindI x = 2) && decide (kindI y = 1)) := by
  rcases Int.lt_trichotomy (kindI y) (kindI x) with q | q | q
  · rw [less_kind hx hy q]
    by_cases n : kindI y = 1 ∧ kindI x = 2
    · rw [decide_eq_true n.1, decide_eq_true n.2]; rfl
    · rw [less_small hx hy q n] at h; cases h
  · rw [same_kind hx hy q.symm, h]
    by_cases e : kindI x = 2
    · rw [decide_eq_false (p := kindI y = 1) (by omega), Bool.and_false]
    · rw [decide_eq_false e, Bool.false_and]
  · have a := slt_ord.asymm (less_kind hy hx q)
    rw [a]
    by_cases e : kindI x = 2
    · rw [decide_eq_false (p := kindI y = 1) (by omega), Bool.and_false]
    · rw [decide_eq_false e, Bool.false_and]
theorem moved_eq (qs : List Str) : moved qs = (qs.filter fun x => decide (kindI x = 0)).map great ++ ((qs.filter fun x => decide (kindI x = 1)).map great ++ ((qs.filter fun x => decide (kindI x = 2)).map great ++ ((qs.filter fun x => decide (kindI x = 3)).map great))) := by
  have e : List.range 4 = [0, 1, 2, 3] := by decide
  unfold moved
  rw [e]
  simp only [List.flatMap_cons, List.flatMap_nil, List.append_nil]
  rfl
theorem moved_perm : ∀ qs : List Str, (moved qs).Perm (qs.map great)
  | [] => by rw [moved_eq]; exact List.Perm.refl _
  | x :: qs => by
    have ih := moved_perm qs
    rw [moved_eq] at ih ⊢
    have key : ∀ A B C D : List Str, (A ++ (B ++ (C ++ D))).Perm (qs.map great) → (great x :: (A ++ (B ++ (C ++ D)))).Perm (great x :: qs.map great) := fun A B C D h => List.Perm.cons _ h
    rcases kind_cases x with e | e | e | e
    · simp only [List.filter_cons, e, List.map_cons, decide_true, if_true, List.cons_append, show decide ((0 : Int) = 1) = false from rfl, show decide ((0 : Int) = 2) = false from rfl, show decide ((0 : Int) = 3) = false from rfl, Bool.false_eq_true, if_false]
      exact key _ _ _ _ ih
    · simp only [List.filter_cons, e, List.map_cons, decide_true, if_true, List.cons_append, show decide ((1 : Int) = 0) = false from rfl, show decide ((1 : Int) = 2) = false from rfl, show decide ((1 : Int) = 3) = false from rfl, Bool.false_eq_true, if_false]
      exact List.perm_middle.trans (key _ _ _ _ ih)
    · simp only [List.filter_cons, e, List.map_cons, decide_true, if_true, List.cons_append, show decide ((2 : Int) = 0) = false from rfl, show decide ((2 : Int) = 1) = false from rfl, show decide ((2 : Int) = 3) = false from rfl, Bool.false_eq_true, if_false]
      exact ((List.Perm.append_left _ List.perm_middle).trans List.perm_middle).trans (key _ _ _ _ ih)
    · simp only [List.filter_cons, e, List.map_cons, decide_true, if_true, List.cons_append, show decide ((3 : Int) = 0) = false from rfl, show decide ((3 : Int) = 1) = false from rfl, show decide ((3 : Int) = 2) = false from rfl, Bool.false_eq_true, if_false]
      exact ((List.Perm.append_left _ ((List.Perm.append_left _ List.perm_middle).trans List.perm_middle)).trans List.perm_middle).trans (key _ _ _ _ ih)
theorem moved_sorted {qs : List Str} (hW : ∀ x ∈ qs, WordOk x) (hs : qs.Pairwise (fun a b => slt b a = false)) : (moved qs).Pairwise (fun a b => slt b a = false) := by
  unfold moved
  rw [List.pairwise_flatMap]
  constructor
  · intro k hk
    rw [List.pairwise_map]
    refine List.Pairwise.imp_of_mem ?_ (List.Pairwise.filter _ hs)
    intro a b ha hb hab
    have a1 := List.mem_filter.mp ha
    have b1 := List.mem_filter.mp hb
    rw [same_kind (hW a a1.1) (hW b b1.1) ((of_decide_eq_true a1.2).trans (of_decide_eq_true b1.2).symm)]
    exact hab
  · refine List.Pairwise.imp ?_ List.pairwise_lt_range
    intro k1 k2 hk x hx y hy
    obtain ⟨a, ha, rfl⟩ := List.mem_map.mp hx
    obtain ⟨b, hb, rfl⟩ := List.mem_map.mp hy
    have a1 := List.mem_filter.mp ha
    have b1 := List.mem_filter.mp hb
    have ea : kindI a = (k1 : Int) := of_decide_eq_true a1.2
    have eb : kindI b = (k2 : Int) := of_decide_eq_true b1.2
    exact slt_ord.asymm (less_kind (hW b b1.1) (hW a a1.1) (by omega))
theorem rising_pw : ∀ (l : List Str) (p : Str), risingS p l = true → (∀ x ∈ l, slt x p = false) ∧ l.Pairwise (fun a b => slt b a = false)
  | [], _, _ => ⟨fun _ h => (nomatch h), List.Pairwise.nil⟩
  | x :: r, p, h => by
    unfold risingS at h
    rw [Bool.and_eq_true] at h
    have h1 : slt x p = false := by
      have := h.1
      rw [PyProof.Rows.ltCps_eq] at this
      unfold slt
      simpa using this
    obtain ⟨i1, i2⟩ := rising_pw r x h.2
    refine ⟨?_, .cons i1 i2⟩
    intro y hy
    rcases List.mem_cons.mp hy with rfl | q
    · exact h1
    · exact slt_ord.trans h1 (i1 y q)
theorem sortedS_pw {l : List Str} (h : sortedS l = true) : l.Pairwise (fun a b => slt b a = false) := by
  cases l with
  | nil => exact .nil
  | cons x r => exact .cons (rising_pw r x h).1 (rising_pw r x h).2
end Mine
end
section
open PySem PySem.W PyProof.Rows
namespace Mine
theorem marks_ok {mk : Str} (h : mk ∈ marks) : ∃ c0 y', mk.cps.toList = c0 :: y' ∧ PySem.Builtin.Str.strKind mk = 1 ∧ 0 < mk.length ∧ mk.length ≤ 2 ∧ c0 ∉ signs ∧ c0 ≠ 65 ∧ c0 ≠ 66 := by
  simp only [marks, List.mem_cons, List.not_mem_nil, or_false] at h
  rcases h with rfl | rfl | rfl | rfl | rfl
  · exact ⟨44, [], by decide +kernel, by decide +kernel, by decide +kernel, by decide +kernel, by decide, by decide, by decide⟩
  · exact ⟨32, [], by decide +kernel, by decide +kernel, by decide +kernel, by decide +kernel, by decide, by decide, by decide⟩
  · exact ⟨46, [32], by decide +kernel, by decide +kernel, by decide +kernel, by decide +kernel, by decide, by decide, by decide⟩
  · exact ⟨88, [], by decide +kernel, by decide +kernel, by decide +kernel, by decide +kernel, by decide, by decide, by decide⟩
  · exact ⟨121, [89], by decide +kernel, by decide +kernel, by decide +kernel, by decide +kernel, by decide, by decide, by decide⟩
theorem great_free {x : Str} {c0 : Nat} (h : WordOk x) (h1 : c0 ∉ signs) (h2 : c0 ≠ 65) (h3 : c0 ≠ 66) : c0 ∉ (great x).cps.toList := by
  rw [(word_all h).1]
  have hs := h.2
  cases e : x.cps.toList with
  | nil => exact fun h => nomatch h
  | cons c t =>
    rw [e] at hs
    intro hm
    rcases List.mem_cons.mp hm with q | q
    · unfold upc at q
      split at q
      · exact h2 q
      · split at q
        · exact h3 q
        · exact h1 (q ▸ hs c (List.mem_cons_self ..))
    · exact h1 (hs c0 (List.mem_cons_of_mem _ q))
theorem great_len {x : Str} (h : WordOk x) : (great x).length ≤ 3 := by
  have e := congrArg List.length (word_all h).1
  have hl := h.1
  rw [slen_eq] at e
  rw [← slen_eq x] at hl
  cases e2 : x.cps.toList with
  | nil => rw [e2] at e; rw [e]; exact Nat.zero_le _
  | cons c t => rw [e2] at e hl; rw [e]; exact hl
theorem sum3 : ∀ {l : List Str}, (∀ x ∈ l, x.length ≤ 3) → (l.map (·.length)).sum ≤ 3 * l.length
  | [], _ => Nat.zero_le _
  | x :: r, h => by
    have a := h x (List.mem_cons_self ..)
    have b := sum3 (l := r) fun y hy => h y (List.mem_cons_of_mem _ hy)
    simp only [List.map_cons, List.sum_cons, List.length_cons]
    omega
theorem join_len {mk : Str} {l : List Str} (hm : mk.length ≤ 2) (hl : l.length ≤ 13) (h : ∀ x ∈ l, x.length ≤ 3) : (Txt.join mk l).length ≤ 10000 := by
  have e : Txt.join mk l = Str.join mk l := StrLaws.glued_eq_join _ _
  rw [e]
  have a := StrLaws.join_length_le mk l
  have b := sum3 h
  have c : l.length * mk.length ≤ 13 * 2 := Nat.mul_le_mul hl hm
  omega
theorem map_getD {l : List Str} {i : Nat} (hi : i < l.length) : (l.map great).getD i Str.empty = great (l.getD i Str.empty) := by
  rw [List.getD_eq_getElem?_getD, List.getD_eq_getElem?_getD, List.getElem?_map, List.getElem?_eq_getElem hi]; rfl
theorem pure_facts (mk : Str) (zs : List Str) (hmk : mk ∈ marks) (hW : ∀ z ∈ zs, WordOk z) (h0 : 0 < zs.length) (hl : zs.length ≤ 13) : ∃ qs, PureFacts mk zs qs := by
  obtain ⟨c0, y', m1, m2, m3, m4, m5, m6, m7⟩ := marks_ok hmk
  obtain ⟨t1, t2⟩ := heapify_all slt_ord zs
  obtain ⟨q1, q2⟩ := sort_all slt_ord zs
  have hT : ∀ x ∈ heapify slt zs, WordOk x := fun x hx => hW x (t1.subset hx)
  have hQ : ∀ x ∈ popAll slt zs.length (heapify slt zs), WordOk x := fun x hx => hW x (q1.subset hx)
  have hTl : (heapify slt zs).length = zs.length := heapify_length slt zs
  have hcap : (heapify slt zs).map Txt.capitalize = (heapify slt zs).map great := List.map_congr_left fun x hx => (word_all (hT x hx)).2.2.1
  have hne : heapify slt zs ≠ [] := fun e => by rw [e] at hTl; simp at hTl; omega
  have hgl : ((heapify slt zs).map great).length = zs.length := by rw [List.length_map]; exact hTl
  have mp := moved_perm (popAll slt zs.length (heapify slt zs))
  have ms := moved_sorted hQ q2
  have mp2 : ((heapify slt zs).map great).Perm (moved (popAll slt zs.length (heapify slt zs))) := ((t1.map great).trans (q1.symm.map great)).trans mp.symm
  refine ⟨popAll slt zs.length (heapify slt zs), { hm := m3, hm2 := by omega, hsp := ?_, hsp2 := ?_, hjl := ?_, hjl2 := ?_, hsum := ?_, hqw := ?_, htw := ?_, hokq := ?_, hokr := ?_, hok := ?_, hbr := ?_, hp0 := rfl, hso := ?_, hp := ?_, hp2 := ?_ }⟩
  · exact split_join m1 m2 hne fun v hv hc => m5 ((hT v hv).2 c0 hc)
  · rw [hcap]
    refine split_join m1 m2 (by simpa using hne) fun v hv => ?_
    obtain ⟨x, hx, rfl⟩ := List.mem_map.mp hv
    exact great_free (hT x hx) m5 m6 m7
  · exact join_len m4 (by omega) fun x hx => (hT x hx).1
  · rw [hcap]
    refine join_len m4 (by omega) fun v hv => ?_
    obtain ⟨x, hx, rfl⟩ := List.mem_map.mp hv
    exact great_len (hT x hx)
  · have := sum3 (l := heapify slt zs) fun x hx => (hT x hx).1
    omega
  · intro x hx
    have := (hQ x hx).1
    omega
  · intro x hx
    have := (hT x hx).1
    omega
  · exact fun x hx => (word_all (hQ x hx)).2.2.2.1
  · intro v hv
    obtain ⟨x, hx, rfl⟩ := List.mem_map.mp hv
    exact (word_all (hT x hx)).2.2.2.2
  · intro v hv
    obtain ⟨x, hx, rfl⟩ := List.mem_map.mp (mp.subset hv)
    exact (word_all (hQ x hx)).2.2.2.2
  · intro i hi hil
    have hpl : (i - 1) / 2 < (heapify slt zs).length := by omega
    rw [map_getD hil, map_getD hpl]
    refine break_law ?_ ?_ (t2 i hil hi (Nat.zero_le _))
    · rw [gget hpl]; exact hT _ (List.getElem_mem hpl)
    · rw [gget hil]; exact hT _ (List.getElem_mem hil)
  · intro ss hs hso
    exact List.Perm.eq_of_pairwise (fun a b _ _ h1 h2 => slt_anti h1 h2) (sortedS_pw hso) q2 (hs.trans q1.symm)
  · obtain ⟨r1, r2⟩ := sort_all slt_ord ((heapify slt zs).map great)
    rw [hgl] at r1 r2
    exact List.Perm.eq_of_pairwise (fun a b _ _ h1 h2 => slt_anti h1 h2) r2 ms (r1.trans mp2)
  · obtain ⟨r1, r2⟩ := sort_all sgt_ord ((heapify slt zs).map great)
    rw [hgl] at r1 r2
    exact List.Perm.eq_of_pairwise (fun a b _ _ h1 h2 => slt_anti h2 h1) r2 (List.pairwise_reverse.mpr ms) ((r1.trans mp2).trans (List.reverse_perm _).symm)
end Mine
end
section
open PySem PySem.W PyProof.Rows
namespace Mine
local macro_rules | `(tactic| walk_at "eval ListComp") => `(tactic| (k_here; (with_reducible show wpAny _ _ (eval (Expr.ListComp _ [_] _ _) _) _ _ _); k_dflt (refine LCg.ListComp_U (F₀ := by k_asm) (by with_unfolding_all rfl) (by decide) (by rfl) (by decide) (by rfl) ?_)))
local macro_rules | `(tactic| walk_at "exec Assign cons ListComp") => `(tactic| (k_here; (with_reducible show wpAny _ _ (exec (Stmt.Assign _ (Expr.ListComp _ [_] _ _) _) _) _ _ _); k_dflt (refine LCg.Assign_ListComp_U (F₀ := by k_asm) (by rfl) (by with_unfolding_all rfl) (by with_unfolding_all rfl) (by decide) (by rfl) (by decide) (by rfl) (by rfl) (by rfl) ?_)))
local macro_rules | `(tactic| k_ne) => `(tactic| (refine neN ?_; (try dsimp only); first | assumption | exact Ne.symm (by assumption) | exact addNe (by decide)))
theorem tailF {w : World} {mean : ExcName → Option Value} {mg mb : Str → Option Value} {base h₀ : Heap} {L fa : Addr} {cd : Value} {m : Str → Option Value} {s : Shared} {Q : Flow → Shared → Prop} {E : Value → Shared → Prop} {o1 o2 o3 o4 o5 : Obj} {lw lr lm : Addr} {ws rs ms : List Value} {zs xs ys : List Str} {nw nr nm : Nat}
  (B : Below callerA base [] h₀) (F : Fr h₀ L s.heap m) (X : (hd.heap_39 w.params).In h₀) (T : Top hd.view_39 LO mean mg mb h₀)
  (N : News h₀ L s.heap ((lr, listOf rs.toArray nr) :: [(lw, listOf ws.toArray nw), (lm, listOf ms.toArray nm), (L + 5, o5), (L + 4, o4), (L + 3, o3), (L + 2, o2), (L + 1, o1)]))
  (hw : m (Str.ofString "words") = some (.ref lw)) (c2 : o2.data = .cell (some (.ref lr))) (c4 : o4.data = .cell (some (.ref lm)))
  (a1 : Off5 L lw) (a2 : Off5 L lr) (a3 : Off5 L lm) (b1 : @Ne Nat lw lr) (b2 : @Ne Nat lw lm) (b3 : @Ne Nat lr lm)
  (hS1 : StrsAre ws zs) (hS2 : StrsAre rs xs) (hS3 : StrsAre ms ys) (hl : xs.length ≤ 1000) (hz : zs.length = xs.length) (hok : StrsOk ys)
  (hp : popAll slt xs.length (heapify slt xs) = ys)
  (hQ : ∀ h' tk m', Fr h₀ L h' m' → Q (.ret (.bool true)) { s with heap := h', toks := tk }) : wpAny (model PySem.Challenge.rw_mr0165_01.row.prog w) (lawA L fa cd) (execs (lawBody.drop 14) (lawEnv L fa cd)) Q E s := by
  replace F := fr_if F hw
  obtain ⟨a11, a12, a13, a14, a15⟩ := a1
  obtain ⟨a21, a22, a23, a24, a25⟩ := a2
  obtain ⟨a31, a32, a33, a34, a35⟩ := a3
  revert X
  k_fill
  intro X
  dsimp only [lawA, lawEnv, lawBody, lawScope, lawFD, bodyOf, scopeOf, PySem.Challenge.pw_mr0165_01, List.getLastD, List.getLast, List.drop, List.getLast?]
  (try k_fold)
  repeat' ((fail_if_success (with_reducible show wpAny _ _ (call (Value.ref 28) _) _ _ _)); first | (k_unfold; (try dsimp only)) | (k_end; wrow_close) | walk1 | (dsimp only; walk1) | (leave1; walk_say "STEP leave1"; try dsimp only) | fail "no step")
  refine hf_min B F X N T rfl (by k_all) hS2 hl (by ktr_room) (by ktr_units) ?_
  intro vs1 h1 tk1 S1 F1 N1
  clear N
  repeat' ((fail_if_success (with_reducible show LCg.CompSrc _ _ _ _ _ _ _ _ _ _ _ _ _ _)); first | (k_unfold; (try dsimp only)) | (k_end; wrow_close) | walk1 | (dsimp only; walk1) | (leave1; walk_say "STEP leave1"; try dsimp only) | fail "no step")
  have hlw := hS1.length
  refine LCg.CompSrc.ledger rfl F1 N1 (by k_mem) (by rw [PySem.sizeLine_eq, List.size_toArray]; omega) ?_
  intro gh
  refine compRest_inv (fun i ys' nX => ∃ vs' n', nX = (lr, listOf vs'.toArray n') :: [(lw, listOf ws.toArray nw), (lm, listOf ms.toArray nm), (L + 5, o5), (L + 4, o4), (L + 3, o3), (L + 2, o2), (L + 1, o1)] ∧ ∃ cur dn, StrsAre vs' cur ∧ StrsAre ys' dn ∧ cur.length = xs.length - i ∧ dn ++ popAll slt (xs.length - i) cur = ys) ?_ ?_ _ _ _ _ (Nat.zero_add _) ⟨vs1, nr, rfl, heapify slt xs, [], S1, .nil, by rw [heapify_length]; rfl, hp⟩
  · rintro i ys' nX v I oI C oC D m₂ h tk E' hi ⟨vs', n', rfl, cur, dn, hc, hd', hcl, he⟩ hv hC hx F2 N2 off ne
    show wpAny _ _ (eval _ _) _ _ _
    (try k_fold)
    repeat' ((fail_if_success (with_reducible show wpAny _ _ (call (Value.ref 21) _) _ _ _)); first | (k_unfold; (try dsimp only)) | (k_end; wrow_close) | walk1 | (dsimp only; walk1) | (leave1; walk_say "STEP leave1"; try dsimp only) | fail "no step")
    rw [List.size_toArray] at hi
    have hin := pop_lt hi hlw hz
    have off' := off
    simp only [LCg.Off3, and_true] at off'
    obtain ⟨⟨of1, of2, of3⟩, _⟩ := off'
    refine hp_min (n := n') B F2 X (rest := (I, oI) :: (C, oC) :: (D, LCg.lst ys') :: [(lw, listOf ws.toArray nw), (lm, listOf ms.toArray nm), (L + 5, o5), (L + 4, o4), (L + 3, o3), (L + 2, o2), (L + 1, o1)]) (fun p hp' => N2 p (swp1 hp')) T rfl (by k_all) hc (pop_pos hcl hin) (pop_le hcl hl) (by ktr_room) (by ktr_units) ?_
    intro t2 vs2 n2 h2 tk2 S2 F3 N3
    show LCg.CompEnd _ _ _ _ _ _ _ _ _ _ _ _ _ _
    refine LCg.CompEnd.intro F3 N3 ((lr, listOf vs2.toArray n2) :: [(lw, listOf ws.toArray nw), (lm, listOf ms.toArray nm), (L + 5, o5), (L + 4, o4), (L + 3, o3), (L + 2, o2), (L + 1, o1)]) (fun p hp' => swp2 hp') off (.inr ⟨_, by k_mem, rfl, _, rfl⟩) ⟨vs2, n2, rfl, _, _, S2, strs_snoc hd', ?_, ?_⟩
    · rw [popRest_length, hcl, Nat.sub_sub]
    · rw [← he, popAll_succ slt cur hin, List.append_assoc]; rfl
  · rintro ys' nX ⟨vs', n', rfl, cur, dn, hc, hd', hcl, he⟩
    have en : xs.length - ws.toArray.size = 0 := by rw [List.size_toArray]; exact pop_end hlw hz
    rw [en] at he
    simp only [popAll, List.append_nil] at he
    rw [he] at hd'
    unfold LCg.FinE
    intro D h tk F4 N4 off4
    (try simp only [LCg.Off1, and_true] at off4)
    dsimp only
    repeat' ((fail_if_success (with_reducible show wpAny _ _ (compareOp _ _ _) _ _ _)); first | (k_unfold; (try dsimp only)) | (k_end; wrow_close) | walk1 | (dsimp only; walk1) | (leave1; walk_say "STEP leave1"; try dsimp only) | fail "no step")
    refine eq_strs (PySem.IsL.isList (n := ys'.length) (N4 (D, LCg.lst ys') (by k_mem)).1) hd' (PySem.IsL.isList (n := nm) (N4 (lm, listOf ms.toArray nm) (by k_mem)).1) hS3 hok hok (by ktr_units) ?_
    rw [decide_eq_true (rfl : ys = ys)]
    repeat' ((fail_if_success (with_reducible show Q _ _)); first | (k_unfold; (try dsimp only)) | (k_end; wrow_close) | walk1 | (dsimp only; walk1) | (leave1; walk_say "STEP leave1"; try dsimp only) | fail "no step")
    exact hQ _ _ _ F4
end Mine
end
section
open PySem PySem.W PyProof.Rows
namespace Mine
local macro_rules | `(tactic| walk_at "eval ListComp") => `(tactic| (k_here; (with_reducible show wpAny _ _ (eval (Expr.ListComp _ [_] _ _) _) _ _ _); k_dflt (refine LCg.ListComp_U (F₀ := by k_asm) (by with_unfolding_all rfl) (by decide) (by rfl) (by decide) (by rfl) ?_)))
local macro_rules | `(tactic| walk_at "exec Assign cons ListComp") => `(tactic| (k_here; (with_reducible show wpAny _ _ (exec (Stmt.Assign _ (Expr.ListComp _ [_] _ _) _) _) _ _ _); k_dflt (refine LCg.Assign_ListComp_U (F₀ := by k_asm) (by rfl) (by with_unfolding_all rfl) (by with_unfolding_all rfl) (by decide) (by rfl) (by decide) (by rfl) (by rfl) (by rfl) ?_)))
local macro_rules | `(tactic| k_ne) => `(tactic| (refine neN ?_; (try dsimp only); first | assumption | exact Ne.symm (by assumption) | exact addNe (by decide)))
local macro_rules | `(tactic| walk_at "call builtin:len") => `(tactic| (k_here; (with_reducible show wpAny _ _ (call (Value.builtin "len") [Value.ref _]) _ _ _); k_dflt (refine' slen ?N ?m ?i ?z ?_; (case N => k_asm); (case m => k_mem); (case i => assumption); (case z => omega); k_whole)))
theorem tailE {w : World} {mean : ExcName → Option Value} {mg mb : Str → Option Value} {base h₀ : Heap} {L fa : Addr} {cd : Value} {m : Str → Option Value} {s : Shared} {Q : Flow → Shared → Prop} {E : Value → Shared → Prop} {o1 o2 o3 o4 o5 : Obj} {lw lr lm : Addr} {ws rs ms : List Value} {zs xs ys : List Str} {nw nr nm : Nat} {v5 : Option Value}
  (B : Below callerA base [] h₀) (F : Fr h₀ L s.heap m) (X : (hd.heap_39 w.params).In h₀) (T : Top hd.view_39 LO mean mg mb h₀)
  (N : News h₀ L s.heap ((lr, listOf rs.toArray nr) :: [(lw, listOf ws.toArray nw), (lm, listOf ms.toArray nm), (L + 5, o5), (L + 4, o4), (L + 3, o3), (L + 2, o2), (L + 1, o1)]))
  (hw : m (Str.ofString "words") = some (.ref lw)) (c2 : o2.data = .cell (some (.ref lr))) (c4 : o4.data = .cell (some (.ref lm))) (c5 : o5.data = .cell v5)
  (a1 : Off5 L lw) (a2 : Off5 L lr) (a3 : Off5 L lm) (b1 : @Ne Nat lw lr) (b2 : @Ne Nat lw lm) (b3 : @Ne Nat lr lm)
  (hS1 : StrsAre ws zs) (hS2 : StrsAre rs xs) (hS3 : StrsAre ms ys) (hl : xs.length ≤ 1000) (hz : zs.length = xs.length) (hok : StrsOk ys)
  (hp : popAll slt xs.length (heapify slt xs) = ys) (hp2 : popAll sgt xs.length (heapify sgt xs) = ys.reverse)
  (hQ : ∀ h' tk m', Fr h₀ L h' m' → Q (.ret (.bool true)) { s with heap := h', toks := tk }) : wpAny (model PySem.Challenge.rw_mr0165_01.row.prog w) (lawA L fa cd) (execs (lawBody.drop 11) (lawEnv L fa cd)) Q E s := by
  replace F := fr_if F hw
  have a1' := a1
  have a2' := a2
  have a3' := a3
  obtain ⟨a11, a12, a13, a14, a15⟩ := a1
  obtain ⟨a21, a22, a23, a24, a25⟩ := a2
  obtain ⟨a31, a32, a33, a34, a35⟩ := a3
  have bl := below_size N
  simp only [AllLt, and_true] at bl
  revert X
  k_fill
  intro X
  dsimp only [lawA, lawEnv, lawBody, lawScope, lawFD, bodyOf, scopeOf, PySem.Challenge.pw_mr0165_01, List.getLastD, List.getLast, List.drop, List.getLast?]
  (try k_fold)
  repeat' ((fail_if_success (with_reducible show wpAny _ _ (storeName _ _ _) _ _ _)); first | (k_unfold; (try dsimp only)) | (k_end; wrow_close) | walk1 | (dsimp only; walk1) | (leave1; walk_say "STEP leave1"; try dsimp only) | fail "no step")
  (rename Fr _ _ _ _ => F1); (rename News _ _ _ _ => N1)
  rw [slicePick_all] at N1
  obtain ⟨lu, hlu⟩ : ∃ lu : Addr, lu = s.heap.objs.size + 1 := ⟨_, rfl⟩
  rw [← hlu] at N1
  rw [← hlu]
  have c9 : (@Ne Nat lu lm) ∧ (@Ne Nat lu lr) ∧ (@Ne Nat lu lw) ∧ (@Ne Nat lu (L + 5)) ∧ (@Ne Nat lu (L + 4)) ∧ (@Ne Nat lu (L + 3)) ∧ (@Ne Nat lu (L + 2)) ∧ (@Ne Nat lu (L + 1)) := by rw [hlu]; clear a11 a12 a13 a14 a15 a21 a22 a23 a24 a25 a31 a32 a33 a34 a35 b1 b2 b3; omega
  obtain ⟨c91, c92, c93, c94, c95, c96, c97, c98⟩ := c9
  clear hlu N F bl
  repeat' ((fail_if_success (with_reducible show wpAny _ _ (call (Value.ref 42) _) _ _ _)); first | (k_unfold; (try dsimp only)) | (k_end; wrow_close) | walk1 | (dsimp only; walk1) | (leave1; walk_say "STEP leave1"; try dsimp only) | fail "no step")
  (rename Fr _ _ _ _ => F1); (rename News _ _ _ _ => N1); (rename Obj => o5n); (rename (_ = Data.cell (some (Value.ref lu))) => c5n)
  have N2 : News h₀ L _ ((lu, listOf rs.toArray 0) :: [(lr, listOf rs.toArray nr), (lw, listOf ws.toArray nw), (lm, listOf ms.toArray nm), (L + 5, o5n), (L + 4, o4), (L + 3, o3), (L + 2, o2), (L + 1, o1)]) := N1
  clear N1
  refine hf_max B F1 X N2 T rfl (by k_all) hS2 hl (by ktr_room) (by ktr_units) ?_
  clear F1 N2
  intro vs1 h1 tk1 S1 F1 N1
  repeat' ((fail_if_success (with_reducible show LCg.CompSrc _ _ _ _ _ _ _ _ _ _ _ _ _ _)); first | (k_unfold; (try dsimp only)) | (k_end; wrow_close) | walk1 | (dsimp only; walk1) | (leave1; walk_say "STEP leave1"; try dsimp only) | fail "no step")
  have hlw := hS1.length
  refine LCg.CompSrc.ledger rfl F1 N1 (by k_mem) (by rw [PySem.sizeLine_eq, List.size_toArray]; omega) ?_
  intro gh
  refine compRest_inv (fun i ys' nX => ∃ vs' n', nX = (lu, listOf vs'.toArray n') :: [(lr, listOf rs.toArray nr), (lw, listOf ws.toArray nw), (lm, listOf ms.toArray nm), (L + 5, o5n), (L + 4, o4), (L + 3, o3), (L + 2, o2), (L + 1, o1)] ∧ ∃ cur dn, StrsAre vs' cur ∧ StrsAre ys' dn ∧ cur.length = xs.length - i ∧ dn ++ popAll sgt (xs.length - i) cur = ys.reverse) ?_ ?_ _ _ _ _ (Nat.zero_add _) ⟨vs1, 0, rfl, heapify sgt xs, [], S1, .nil, by rw [heapify_length]; rfl, hp2⟩
  · rintro i ys' nX v I oI C oC D m₂ h tk E' hi ⟨vs', n', rfl, cur, dn, hc, hd', hcl, he⟩ hv hC hx F2 N2 off ne
    show wpAny _ _ (eval _ _) _ _ _
    (try k_fold)
    repeat' ((fail_if_success (with_reducible show wpAny _ _ (call (Value.ref 35) _) _ _ _)); first | (k_unfold; (try dsimp only)) | (k_end; wrow_close) | walk1 | (dsimp only; walk1) | (leave1; walk_say "STEP leave1"; try dsimp only) | fail "no step")
    rw [List.size_toArray] at hi
    have hin := pop_lt hi hlw hz
    have off' := off
    simp only [LCg.Off3, and_true] at off'
    obtain ⟨⟨of1, of2, of3⟩, _⟩ := off'
    refine hp_max (n := n') B F2 X (rest := (I, oI) :: (C, oC) :: (D, LCg.lst ys') :: [(lr, listOf rs.toArray nr), (lw, listOf ws.toArray nw), (lm, listOf ms.toArray nm), (L + 5, o5n), (L + 4, o4), (L + 3, o3), (L + 2, o2), (L + 1, o1)]) (fun p hp' => N2 p (swp1 hp')) T rfl (by k_all) hc (pop_pos hcl hin) (pop_le hcl hl) (by ktr_room) (by ktr_units) ?_
    intro t2 vs2 n2 h2 tk2 S2 F3 N3
    show LCg.CompEnd _ _ _ _ _ _ _ _ _ _ _ _ _ _
    refine LCg.CompEnd.intro F3 N3 ((lu, listOf vs2.toArray n2) :: [(lr, listOf rs.toArray nr), (lw, listOf ws.toArray nw), (lm, listOf ms.toArray nm), (L + 5, o5n), (L + 4, o4), (L + 3, o3), (L + 2, o2), (L + 1, o1)]) (fun p hp' => swp2 hp') off (.inr ⟨_, by k_mem, rfl, _, rfl⟩) ⟨vs2, n2, rfl, _, _, S2, strs_snoc hd', ?_, ?_⟩
    · rw [popRest_length, hcl, Nat.sub_sub]
    · rw [← he, popAll_succ sgt cur hin, List.append_assoc]; rfl
  · rintro ys' nX ⟨vs', n', rfl, cur, dn, hc, hd', hcl, he⟩
    have en : xs.length - ws.toArray.size = 0 := by rw [List.size_toArray]; exact pop_end hlw hz
    rw [en] at he
    simp only [popAll, List.append_nil] at he
    rw [he] at hd'
    unfold LCg.FinE
    intro D h tk F4 N4 off4
    (try simp only [LCg.Off1, and_true] at off4)
    dsimp only
    clear F1 N1
    have hyl : ys.length = xs.length := by rw [← hp, popAll_length]
    have hyb : ys.length ≤ 1000 := by omega
    repeat' ((fail_if_success (with_reducible show LCg.CompSrc _ _ _ _ _ _ _ _ _ _ _ _ _ _)); first | (k_unfold; (try dsimp only)) | (k_end; wrow_close) | walk1 | (dsimp only; walk1) | (leave1; walk_say "STEP leave1"; try dsimp only) | fail "no step")
    (rename IsRange _ _ _ _ _ _ _ _ => hR); (rename Fr _ _ _ _ => F5); (rename News _ _ _ _ => N5)
    refine LCg.CompSrc.range (n := ys.length) rfl F5 N5 hR (small_up (by omega)) (size_up _) (by rw [PySem.sizeLine_eq]; omega) ?_
    intro gh2
    refine compRest_inv (fun i zz nX => nX = (D, LCg.lst ys') :: (lu, listOf vs'.toArray n') :: [(lr, listOf rs.toArray nr), (lw, listOf ws.toArray nw), (lm, listOf ms.toArray nm), (L + 5, o5n), (L + 4, o4), (L + 3, o3), (L + 2, o2), (L + 1, o1)] ∧ StrsAre zz (ys.reverse.take i)) ?_ ?_ _ _ _ _ (Nat.zero_add _) ⟨rfl, .nil⟩
    · clear F5 N5 hR
      rintro i zz nX v I oI C oC D2 m₂ h3 tk3 E' hi ⟨rfl, hzz⟩ ⟨t3, rfl⟩ hC hx F6 N6 off6 ne6
      show wpAny _ _ (eval _ _) _ _ _
      (try k_fold)
      repeat' ((fail_if_success (with_reducible show wpAny _ _ (subscriptTail _ _ _ _) _ _ _)); first | (k_unfold; (try dsimp only)) | (k_end; wrow_close) | walk1 | (dsimp only; walk1) | (leave1; walk_say "STEP leave1"; try dsimp only) | fail "no step")
      refine item_strs_neg (PySem.IsL.isList (n := nm) (N6 (lm, listOf ms.toArray nm) (by k_mem)).1) hS3 neg1 (neg2 hi) (neg3 hi hyb) ?_
      intro t4
      show LCg.CompEnd _ _ _ _ _ _ _ _ _ _ _ _ _ _
      refine LCg.CompEnd.intro F6 N6 ((D, LCg.lst ys') :: (lu, listOf vs'.toArray n') :: [(lr, listOf rs.toArray nr), (lw, listOf ws.toArray nw), (lm, listOf ms.toArray nm), (L + 5, o5n), (L + 4, o4), (L + 3, o3), (L + 2, o2), (L + 1, o1)]) (fun p hp => hp) off6 trivial ⟨rfl, ?_⟩
      rw [rev_take_succ hi (neg_idx hi)]
      exact strs_snoc hzz
    · rintro zz nX ⟨rfl, hzz⟩
      rw [List.take_of_length_le (by rw [List.length_reverse]; exact Nat.le_refl _)] at hzz
      clear F5 N5 hR
      unfold LCg.FinE
      intro D2 h7 tk7 F7 N7 off7
      (try simp only [LCg.Off1, and_true] at off7)
      dsimp only
      repeat' ((fail_if_success (with_reducible show wpAny _ _ (compareOp _ _ _) _ _ _)); first | (k_unfold; (try dsimp only)) | (k_end; wrow_close) | walk1 | (dsimp only; walk1) | (leave1; walk_say "STEP leave1"; try dsimp only) | fail "no step")
      refine ne_strs (PySem.IsL.isList (n := ys'.length) (N7 (D, LCg.lst ys') (by k_mem)).1) hd' (PySem.IsL.isList (n := zz.length) (N7 (D2, LCg.lst zz) (by k_mem)).1) hzz (strsOk_rev hok) (strsOk_rev hok) (by ktr_units) ?_
      rw [decide_eq_true (rfl : ys.reverse = ys.reverse)]
      repeat' ((fail_if_success (with_reducible show wpAny _ _ (execs (Stmt.Expr _ _ :: _) _) _ _ _)); first | (k_unfold; (try dsimp only)) | (k_end; wrow_close) | walk1 | (dsimp only; walk1) | (leave1; walk_say "STEP leave1"; try dsimp only) | fail "no step")
      exact tailF B F7 X T (fun p hp => N7 p (List.mem_cons_of_mem _ (List.mem_cons_of_mem _ (List.mem_cons_of_mem _ hp)))) (by rfl) c2 c4 a1' a2' a3' b1 b2 b3 hS1 hS2 hS3 hl hz hok hp (fun h' tk m' F' => hQ h' tk m' F')
end Mine
end
section
open PySem PySem.W PyProof.Rows
namespace Mine
local macro_rules | `(tactic| walk_at "eval ListComp") => `(tactic| (k_here; (with_reducible show wpAny _ _ (eval (Expr.ListComp _ [_] _ _) _) _ _ _); k_dflt (refine LCg.ListComp_U (F₀ := by k_asm) (by with_unfolding_all rfl) (by decide) (by rfl) (by decide) (by rfl) ?_)))
local macro_rules | `(tactic| walk_at "exec Assign cons ListComp") => `(tactic| (k_here; (with_reducible show wpAny _ _ (exec (Stmt.Assign _ (Expr.ListComp _ [_] _ _) _) _) _ _ _); k_dflt (refine LCg.Assign_ListComp_U (F₀ := by k_asm) (by rfl) (by with_unfolding_all rfl) (by with_unfolding_all rfl) (by decide) (by rfl) (by decide) (by rfl) (by rfl) (by rfl) ?_)))
local macro_rules | `(tactic| k_ne) => `(tactic| (refine neN ?_; (try dsimp only); first | assumption | exact Ne.symm (by assumption) | exact addNe (by decide)))
local macro_rules | `(tactic| walk_at "call builtin:len") => `(tactic| (k_here; (with_reducible show wpAny _ _ (call (Value.builtin "len") [Value.ref _]) _ _ _); k_dflt (refine' slen ?N ?m ?i ?z ?_; (case N => k_asm); (case m => k_mem); (case i => assumption); (case z => omega); k_whole)))
theorem tailD {w : World} {mean : ExcName → Option Value} {mg mb : Str → Option Value} {base h₀ : Heap} {L fa : Addr} {cd : Value} {m : Str → Option Value} {s : Shared} {Q : Flow → Shared → Prop} {E : Value → Shared → Prop} {o1 o2 o3 o4 o5 : Obj} {lw lr lo : Addr} {ws rs os : List Value} {zs xs qs : List Str} {nw nr no : Nat} {v4 v5 : Option Value}
  (B : Below callerA base [] h₀) (F : Fr h₀ L s.heap m) (X : (hd.heap_39 w.params).In h₀) (T : Top hd.view_39 LO mean mg mb h₀)
  (N : News h₀ L s.heap [(lo, listOf os.toArray no), (lr, listOf rs.toArray nr), (lw, listOf ws.toArray nw), (L + 5, o5), (L + 4, o4), (L + 3, o3), (L + 2, o2), (L + 1, o1)])
  (hw : m (Str.ofString "words") = some (.ref lw)) (c2 : o2.data = .cell (some (.ref lr))) (c3 : o3.data = .cell (some (.ref lo))) (c4 : o4.data = .cell v4) (c5 : o5.data = .cell v5)
  (a1 : Off5 L lw) (a2 : Off5 L lr) (a3 : Off5 L lo) (b1 : @Ne Nat lw lr) (b2 : @Ne Nat lw lo) (b3 : @Ne Nat lr lo)
  (hS1 : StrsAre ws zs) (hS2 : StrsAre rs xs) (hS3 : StrsAre os qs) (hl : xs.length ≤ 1000) (hz : zs.length = xs.length) (hql : qs.length ≤ 1000) (hqw : ∀ x ∈ qs, x.length ≤ 1000) (hok : StrsOk ((List.range 4).flatMap fun (k : Nat) => (qs.filter fun x => decide (kindI x = (k : Int))).map great))
  (hp : popAll slt xs.length (heapify slt xs) = ((List.range 4).flatMap fun (k : Nat) => (qs.filter fun x => decide (kindI x = (k : Int))).map great)) (hp2 : popAll sgt xs.length (heapify sgt xs) = ((List.range 4).flatMap fun (k : Nat) => (qs.filter fun x => decide (kindI x = (k : Int))).map great).reverse)
  (hQ : ∀ h' tk m', Fr h₀ L h' m' → Q (.ret (.bool true)) { s with heap := h', toks := tk }) : wpAny (model PySem.Challenge.rw_mr0165_01.row.prog w) (lawA L fa cd) (execs (lawBody.drop 10) (lawEnv L fa cd)) Q E s := by
  replace F := fr_if F hw
  have a1' := a1
  have a2' := a2
  obtain ⟨a11, a12, a13, a14, a15⟩ := a1
  obtain ⟨a21, a22, a23, a24, a25⟩ := a2
  obtain ⟨a31, a32, a33, a34, a35⟩ := a3
  revert X
  k_fill
  intro X
  dsimp only [lawA, lawEnv, lawBody, lawScope, lawFD, bodyOf, scopeOf, PySem.Challenge.pw_mr0165_01, List.getLastD, List.getLast, List.drop, List.getLast?]
  (try k_fold)
  repeat' ((fail_if_success (with_reducible show wpAny _ _ (eval (Expr.ListComp _ _ _ _) _) _ _ _)); first | (k_unfold; (try dsimp only)) | (k_end; wrow_close) | walk1 | (dsimp only; walk1) | (leave1; walk_say "STEP leave1"; try dsimp only) | fail "no step")
  refine listComp2 (n1 := 4) (news := [(lo, listOf os.toArray no), (lr, listOf rs.toArray nr), (lw, listOf ws.toArray nw), (L + 5, o5), (L + 4, o4), (L + 3, o3), (L + 2, o2), (L + 1, o1)]) (fun x k => decide (kindI x = k)) great F rfl (by k_mem) hS3 (by decide) hql (by with_unfolding_all rfl) (by decide) (by rfl) (by decide) (by rfl) (by rfl) (by decide) (by intro _; rfl) (by intro _ _; rfl) ?h ?it2 ?test ?el ?fin
  case h =>
    repeat' ((fail_if_success (with_reducible show Exists _)); first | (k_unfold; (try dsimp only)) | (k_end; wrow_close) | walk1 | (dsimp only; walk1) | (leave1; walk_say "STEP leave1"; try dsimp only) | fail "no step")
    (rename IsRange _ _ _ _ _ _ _ _ => hR); (rename Fr _ _ _ _ => F1); (rename News _ _ _ _ => N1)
    exact ⟨_, _, _, _, _, _, rfl, rfl, F1, N1, hR⟩
  case it2 =>
    intro I C D oI oC oD m₂ h tk E' hC F1 N1
    repeat' ((fail_if_success (with_reducible show And _ _)); first | (k_unfold; (try dsimp only)) | (k_end; wrow_close) | walk1 | (dsimp only; walk1) | (leave1; walk_say "STEP leave1"; try dsimp only) | fail "no step")
    exact ⟨rfl, _, _, rfl, F1, N1⟩
  case test =>
    intro I C D J oJ k x t t' oI oC oD m₂ h tk E' hx hC h1 h2 F1 N1
    repeat' ((fail_if_success (with_reducible show wpAny _ _ (call (Value.ref 97) _) _ _ _)); first | (k_unfold; (try dsimp only)) | (k_end; wrow_close) | walk1 | (dsimp only; walk1) | (leave1; walk_say "STEP leave1"; try dsimp only) | fail "no step")
    refine lkind B F1 X N1 T rfl (hqw x hx) (by ktr_room) (by ktr_units) ?_
    clear F1 N1
    intro t7 h7 tk7 F1 N1
    repeat' ((fail_if_success (with_reducible show And _ _)); first | (k_unfold; (try dsimp only)) | (k_end; wrow_close) | walk1 | (dsimp only; walk1) | (leave1; walk_say "STEP leave1"; try dsimp only) | fail "no step")
    exact ⟨rfl, _, _, rfl, F1, N1⟩
  case el =>
    intro I C D J oJ x t' oI oC oD m₂ h tk E' hx hC h2 F1 N1
    repeat' ((fail_if_success (with_reducible show wpAny _ _ (call (Value.ref 90) _) _ _ _)); first | (k_unfold; (try dsimp only)) | (k_end; wrow_close) | walk1 | (dsimp only; walk1) | (leave1; walk_say "STEP leave1"; try dsimp only) | fail "no step")
    refine lgreat B F1 X N1 T rfl (hqw x hx) (by ktr_room) (by ktr_units) ?_
    clear F1 N1
    intro t7 h7 tk7 F1 N1
    repeat' ((fail_if_success (with_reducible show And _ _)); first | (k_unfold; (try dsimp only)) | (k_end; wrow_close) | walk1 | (dsimp only; walk1) | (leave1; walk_say "STEP leave1"; try dsimp only) | fail "no step")
    exact ⟨⟨_, rfl⟩, _, _, rfl, F1, N1⟩
  case fin =>
    intro D ys h tk hy F1 N1 off
    have off' : LCg.Off1 D [(lo, listOf os.toArray no), (lr, listOf rs.toArray nr), (lw, listOf ws.toArray nw), (L + 5, o5), (L + 4, o4), (L + 3, o3), (L + 2, o2), (L + 1, o1)] := LCg.Off3.one (I := D) (C := D) (LCg.Off3.of fun p hp => ⟨off p hp, off p hp, off p hp⟩)
    simp only [LCg.Off1, and_true] at off'
    obtain ⟨of1, of2, of3, of4, of5, of6, of7, of8⟩ := off'
    clear off F N
    repeat' ((fail_if_success (with_reducible show wpAny _ _ (execs (Stmt.Assign _ _ _ :: _) _) _ _ _)); first | (k_unfold; (try dsimp only)) | (k_end; wrow_close) | walk1 | (dsimp only; walk1) | (leave1; walk_say "STEP leave1"; try dsimp only) | fail "no step")
    (rename Fr _ _ _ _ => F2); (rename News _ _ _ _ => N2); (rename Obj => o4n); (rename (_ = Data.cell (some (Value.ref D))) => c4n)
    have N3 : News h₀ L _ [(lr, listOf rs.toArray nr), (lw, listOf ws.toArray nw), (D, listOf ys.toArray ys.length), (L + 5, o5), (L + 4, o4n), (L + 3, o3), (L + 2, o2), (L + 1, o1)] := fun p hp => N2 p (mem_tailE hp)
    exact tailE B F2 X T N3 (by rfl) c2 c4n c5 a1' a2' ⟨of4.symm, of5.symm, of6.symm, of7.symm, of8.symm⟩ b1 of3 of2 hS1 hS2 hy hl hz hok hp hp2 (fun h' tk m' F' => hQ h' tk m' F')
end Mine
end
section
open PySem PySem.W PyProof.Rows
namespace Mine
local macro_rules | `(tactic| walk_at "eval ListComp") => `(tactic| (k_here; (with_reducible show wpAny _ _ (eval (Expr.ListComp _ [_] _ _) _) _ _ _); k_dflt (refine LCg.ListComp_U (F₀ := by k_asm) (by with_unfolding_all rfl) (by decide) (by rfl) (by decide) (by rfl) ?_)))
local macro_rules | `(tactic| walk_at "exec Assign cons ListComp") => `(tactic| (k_here; (with_reducible show wpAny _ _ (exec (Stmt.Assign _ (Expr.ListComp _ [_] _ _) _) _) _ _ _); k_dflt (refine LCg.Assign_ListComp_U (F₀ := by k_asm) (by rfl) (by with_unfolding_all rfl) (by with_unfolding_all rfl) (by decide) (by rfl) (by decide) (by rfl) (by rfl) (by rfl) ?_)))
local macro_rules | `(tactic| k_ne) => `(tactic| (refine neN ?_; (try dsimp only); first | assumption | exact Ne.symm (by assumption) | exact addNe (by decide)))
local macro_rules | `(tactic| walk_at "call builtin:len") => `(tactic| (k_here; (with_reducible show wpAny _ _ (call (Value.builtin "len") [Value.ref _]) _ _ _); k_dflt (refine' slen ?N ?m ?i ?z ?_; (case N => k_asm); (case m => k_mem); (case i => assumption); (case z => omega); k_whole)))
theorem tailC {w : World} {mean : ExcName → Option Value} {mg mb : Str → Option Value} {base h₀ : Heap} {L fa : Addr} {cd : Value} {m : Str → Option Value} {s : Shared} {Q : Flow → Shared → Prop} {E : Value → Shared → Prop} {o1 o2 o3 o4 o5 : Obj} {lw lr lt : Addr} {ws rs ts : List Value} {zs xs tc qs : List Str} {nw nr nt : Nat} {v3 v4 v5 : Option Value}
  (B : Below callerA base [] h₀) (F : Fr h₀ L s.heap m) (X : (hd.heap_39 w.params).In h₀) (T : Top hd.view_39 LO mean mg mb h₀)
  (N : News h₀ L s.heap ((lt, listOf ts.toArray nt) :: [(lr, listOf rs.toArray nr), (lw, listOf ws.toArray nw), (L + 5, o5), (L + 4, o4), (L + 3, o3), (L + 2, o2), (L + 1, o1)]))
  (hw : m (Str.ofString "words") = some (.ref lw)) (c1 : o1.data = .cell (some (.ref lt))) (c2 : o2.data = .cell (some (.ref lr))) (c3 : o3.data = .cell v3) (c4 : o4.data = .cell v4) (c5 : o5.data = .cell v5)
  (a1 : Off5 L lw) (a2 : Off5 L lr) (a3 : Off5 L lt) (b1 : @Ne Nat lw lr) (b2 : @Ne Nat lw lt) (b3 : @Ne Nat lr lt)
  (hS1 : StrsAre ws zs) (hS2 : StrsAre rs xs) (hS3 : StrsAre ts tc) (hl : xs.length ≤ 1000) (hz : zs.length = xs.length) (hz0 : zs.length = tc.length) (hl0 : tc.length ≤ 1000) (hl64 : zs.length < 64) (hqw : ∀ x ∈ qs, x.length ≤ 1000) (hokq : StrsOk qs) (hok : StrsOk ((List.range 4).flatMap fun (k : Nat) => (qs.filter fun x => decide (kindI x = (k : Int))).map great))
  (hp0 : popAll slt tc.length tc = qs) (hso : ∀ ss, ss.Perm zs → sortedS ss = true → ss = qs)
  (hp : popAll slt xs.length (heapify slt xs) = ((List.range 4).flatMap fun (k : Nat) => (qs.filter fun x => decide (kindI x = (k : Int))).map great)) (hp2 : popAll sgt xs.length (heapify sgt xs) = ((List.range 4).flatMap fun (k : Nat) => (qs.filter fun x => decide (kindI x = (k : Int))).map great).reverse)
  (hQ : ∀ h' tk m', Fr h₀ L h' m' → Q (.ret (.bool true)) { s with heap := h', toks := tk }) : wpAny (model PySem.Challenge.rw_mr0165_01.row.prog w) (lawA L fa cd) (execs (lawBody.drop 8) (lawEnv L fa cd)) Q E s := by
  replace F := fr_if F hw
  have a1' := a1
  have a2' := a2
  obtain ⟨a11, a12, a13, a14, a15⟩ := a1
  obtain ⟨a21, a22, a23, a24, a25⟩ := a2
  obtain ⟨a31, a32, a33, a34, a35⟩ := a3
  revert X
  k_fill
  intro X
  dsimp only [lawA, lawEnv, lawBody, lawScope, lawFD, bodyOf, scopeOf, PySem.Challenge.pw_mr0165_01, List.getLastD, List.getLast, List.drop, List.getLast?]
  (try k_fold)
  repeat' ((fail_if_success (with_reducible show LCg.CompSrc _ _ _ _ _ _ _ _ _ _ _ _ _ _)); first | (k_unfold; (try dsimp only)) | (k_end; wrow_close) | walk1 | (dsimp only; walk1) | (leave1; walk_say "STEP leave1"; try dsimp only) | fail "no step")
  have hlw := hS1.length
  have F1 := F
  have N1 := N
  refine LCg.CompSrc.ledger rfl F1 N1 (by k_mem) (by rw [PySem.sizeLine_eq, List.size_toArray]; omega) ?_
  intro gh
  refine compRest_inv (fun i ys' nX => ∃ vs' n', nX = (lt, listOf vs'.toArray n') :: [(lr, listOf rs.toArray nr), (lw, listOf ws.toArray nw), (L + 5, o5), (L + 4, o4), (L + 3, o3), (L + 2, o2), (L + 1, o1)] ∧ ∃ cur dn, StrsAre vs' cur ∧ StrsAre ys' dn ∧ cur.length = tc.length - i ∧ dn ++ popAll slt (tc.length - i) cur = qs) ?_ ?_ _ _ _ _ (Nat.zero_add _) ⟨ts, nt, rfl, tc, [], hS3, .nil, rfl, hp0⟩
  · rintro i ys' nX v I oI C oC D m₂ h tk E' hi ⟨vs', n', rfl, cur, dn, hc, hd', hcl, he⟩ hv hC hx F2 N2 off ne
    show wpAny _ _ (eval _ _) _ _ _
    (try k_fold)
    repeat' ((fail_if_success (with_reducible show wpAny _ _ (call (Value.ref 21) _) _ _ _)); first | (k_unfold; (try dsimp only)) | (k_end; wrow_close) | walk1 | (dsimp only; walk1) | (leave1; walk_say "STEP leave1"; try dsimp only) | fail "no step")
    rw [List.size_toArray] at hi
    have hin := pop_lt hi hlw hz0
    have off' := off
    simp only [LCg.Off3, and_true] at off'
    obtain ⟨⟨of1, of2, of3⟩, _⟩ := off'
    refine hp_min (n := n') B F2 X (rest := (I, oI) :: (C, oC) :: (D, LCg.lst ys') :: [(lr, listOf rs.toArray nr), (lw, listOf ws.toArray nw), (L + 5, o5), (L + 4, o4), (L + 3, o3), (L + 2, o2), (L + 1, o1)]) (fun p hp' => N2 p (swp1 hp')) T rfl (by k_all) hc (pop_pos hcl hin) (pop_le hcl hl0) (by ktr_room) (by ktr_units) ?_
    intro t2 vs2 n2 h2 tk2 S2 F3 N3
    show LCg.CompEnd _ _ _ _ _ _ _ _ _ _ _ _ _ _
    refine LCg.CompEnd.intro F3 N3 ((lt, listOf vs2.toArray n2) :: [(lr, listOf rs.toArray nr), (lw, listOf ws.toArray nw), (L + 5, o5), (L + 4, o4), (L + 3, o3), (L + 2, o2), (L + 1, o1)]) (fun p hp' => swp2 hp') off (.inr ⟨_, by k_mem, rfl, _, rfl⟩) ⟨vs2, n2, rfl, _, _, S2, strs_snoc hd', ?_, ?_⟩
    · rw [popRest_length, hcl, Nat.sub_sub]
    · rw [← he, popAll_succ slt cur hin, List.append_assoc]; rfl
  · rintro ys' nX ⟨vs', n', rfl, cur, dn, hc, hd', hcl, he⟩
    have en : tc.length - ws.toArray.size = 0 := by rw [List.size_toArray]; exact pop_end hlw hz0
    rw [en] at he
    simp only [popAll, List.append_nil] at he
    rw [he] at hd'
    unfold LCg.FinE
    intro D h tk F4 N4 off4
    (try simp only [LCg.Off1, and_true] at off4)
    dsimp only
    obtain ⟨of1, of2, of3, of4, of5, of6, of7, of8⟩ := off4
    clear F1 N1 F N
    repeat' ((fail_if_success (with_reducible show wpAny _ _ (call (Value.builtin "sorted") _) _ _ _)); first | (k_unfold; (try dsimp only)) | (k_end; wrow_close) | walk1 | (dsimp only; walk1) | (leave1; walk_say "STEP leave1"; try dsimp only) | fail "no step")
    (rename Fr _ _ _ _ => F2); (rename News _ _ _ _ => N2); (rename Obj => o3n); (rename (_ = Data.cell (some (Value.ref D))) => c3n)
    refine sorted_N_str F2 N2 (PySem.IsL.isList (n := nw) (N2 (lw, listOf ws.toArray nw) (by k_mem)).1) hS1 (by rw [hlw]; exact hl64) ?_
    intro h5 vs5 ss5 e5 F5 N5 S5 pm5 so5
    have es := hso ss5 pm5 so5
    subst es
    repeat' ((fail_if_success (with_reducible show wpAny _ _ (compareOp _ _ _) _ _ _)); first | (k_unfold; (try dsimp only)) | (k_end; wrow_close) | walk1 | (dsimp only; walk1) | (leave1; walk_say "STEP leave1"; try dsimp only) | fail "no step")
    refine ne_strs (PySem.IsL.isList (n := ys'.length) (N5 (D, LCg.lst ys') (List.mem_cons_of_mem _ List.mem_cons_self)).1) hd' (PySem.IsL.isList (n := e5) (N5 (_, listOf vs5.toArray e5) List.mem_cons_self).1) S5 hokq hokq (by ktr_units) ?_
    rw [decide_eq_true (rfl : ss5 = ss5)]
    repeat' ((fail_if_success (with_reducible show wpAny _ _ (execs (Stmt.Assign _ _ _ :: _) _) _ _ _)); first | (k_unfold; (try dsimp only)) | (k_end; wrow_close) | walk1 | (dsimp only; walk1) | (leave1; walk_say "STEP leave1"; try dsimp only) | fail "no step")
    have N3 : News h₀ L _ [(D, listOf ys'.toArray ys'.length), (lr, listOf rs.toArray nr), (lw, listOf ws.toArray nw), (L + 5, o5), (L + 4, o4), (L + 3, o3n), (L + 2, o2), (L + 1, o1)] := fun p hp => N5 p (mem_tailD hp)
    have hql : ss5.length ≤ 1000 := by rw [← hp0, popAll_length]; exact hl0
    exact tailD B F5 X T N3 (by rfl) c2 c3n c4 c5 a1' a2' ⟨of4.symm, of5.symm, of6.symm, of7.symm, of8.symm⟩ b1 of3 of2 hS1 hS2 hd' hl hz hql hqw hok hp hp2 (fun h' tk m' F' => hQ h' tk m' F')
end Mine
end
section
open PySem PySem.W PyProof.Rows
namespace Mine
local macro_rules | `(tactic| walk_at "eval ListComp") => `(tactic| (k_here; (with_reducible show wpAny _ _ (eval (Expr.ListComp _ [_] _ _) _) _ _ _); k_dflt (refine LCg.ListComp_U (F₀ := by k_asm) (by with_unfolding_all rfl) (by decide) (by rfl) (by decide) (by rfl) ?_)))
local macro_rules | `(tactic| walk_at "exec Assign cons ListComp") => `(tactic| (k_here; (with_reducible show wpAny _ _ (exec (Stmt.Assign _ (Expr.ListComp _ [_] _ _) _) _) _ _ _); k_dflt (refine LCg.Assign_ListComp_U (F₀ := by k_asm) (by rfl) (by with_unfolding_all rfl) (by with_unfolding_all rfl) (by decide) (by rfl) (by decide) (by rfl) (by rfl) (by rfl) ?_)))
local macro_rules | `(tactic| k_ne) => `(tactic| (refine neN ?_; (try dsimp only); first | assumption | exact Ne.symm (by assumption) | exact addNe (by decide)))
local macro_rules | `(tactic| walk_at "call builtin:len") => `(tactic| (k_here; (with_reducible show wpAny _ _ (call (Value.builtin "len") [Value.ref _]) _ _ _); k_dflt (refine' slen ?N ?m ?i ?z ?_; (case N => k_asm); (case m => k_mem); (case i => assumption); (case z => omega); k_whole)))
local macro_rules | `(tactic| walk_at "binaryOp FloorDiv int int") => `(tactic| refine fdivm1 (by omega) ?_)
local macro_rules | `(tactic| walk_at "call ref") => `(tactic| (k_here; (with_reducible show wpAny _ _ (call (Value.ref 97) _) _ _ _); k_dflt (refine' lkind ?kB ?kF ?kX ?kN ?kT ?kk ?kx ?kd ?ku ?_; (case kB => k_asm); (case kF => k_asm); (case kX => k_asm); (case kN => k_asm); (case kT => k_asm); (case kk => exact rfl); (case kx => exact le_of_all (by assumption) _); (case kd => ktr_room); (case ku => ktr_units)); intro tC hC tkC FC NC))
theorem tailB {w : World} {mean : ExcName → Option Value} {mg mb : Str → Option Value} {base h₀ : Heap} {L fa : Addr} {cd : Value} {m : Str → Option Value} {s : Shared} {Q : Flow → Shared → Prop} {E : Value → Shared → Prop} {o1 o2 o3 o4 o5 : Obj} {lw lr lt : Addr} {ws rs ts : List Value} {zs xs tc qs : List Str} {nw nr nt : Nat} {v3 v4 v5 : Option Value}
  (B : Below callerA base [] h₀) (F : Fr h₀ L s.heap m) (X : (hd.heap_39 w.params).In h₀) (T : Top hd.view_39 LO mean mg mb h₀) (hE : PassesOwn (model PySem.Challenge.rw_mr0165_01.row.prog w) (lawA L fa cd) (lawEnv L fa cd) E)
  (N : News h₀ L s.heap ((lt, listOf ts.toArray nt) :: [(lr, listOf rs.toArray nr), (lw, listOf ws.toArray nw), (L + 5, o5), (L + 4, o4), (L + 3, o3), (L + 2, o2), (L + 1, o1)]))
  (hw : m (Str.ofString "words") = some (.ref lw)) (c1 : o1.data = .cell (some (.ref lt))) (c2 : o2.data = .cell (some (.ref lr))) (c3 : o3.data = .cell v3) (c4 : o4.data = .cell v4) (c5 : o5.data = .cell v5)
  (a1 : Off5 L lw) (a2 : Off5 L lr) (a3 : Off5 L lt) (b1 : @Ne Nat lw lr) (b2 : @Ne Nat lw lt) (b3 : @Ne Nat lr lt)
  (hS1 : StrsAre ws zs) (hS2 : StrsAre rs xs) (hS3 : StrsAre ts tc) (hl : xs.length ≤ 1000) (hz : zs.length = xs.length) (hz0 : zs.length = tc.length) (hl0 : tc.length ≤ 1000) (hl64 : zs.length < 64) (hqw : ∀ x ∈ qs, x.length ≤ 1000) (htw : ∀ x ∈ tc, x.length ≤ 1000) (hokq : StrsOk qs) (hok : StrsOk ((List.range 4).flatMap fun (k : Nat) => (qs.filter fun x => decide (kindI x = (k : Int))).map great))
  (h1 : 0 < tc.length) (hbr : ∀ i, 0 < i → i < tc.length → slt (xs.getD i Str.empty) (xs.getD ((i - 1) / 2) Str.empty) = (decide (kindI (tc.getD ((i - 1) / 2) Str.empty) = 2) && decide (kindI (tc.getD i Str.empty) = 1)))
  (hp0 : popAll slt tc.length tc = qs) (hso : ∀ ss, ss.Perm zs → sortedS ss = true → ss = qs)
  (hp : popAll slt xs.length (heapify slt xs) = ((List.range 4).flatMap fun (k : Nat) => (qs.filter fun x => decide (kindI x = (k : Int))).map great)) (hp2 : popAll sgt xs.length (heapify sgt xs) = ((List.range 4).flatMap fun (k : Nat) => (qs.filter fun x => decide (kindI x = (k : Int))).map great).reverse)
  (hQ : ∀ h' tk m', Fr h₀ L h' m' → Q (.ret (.bool true)) { s with heap := h', toks := tk }) : wpAny (model PySem.Challenge.rw_mr0165_01.row.prog w) (lawA L fa cd) (execs (lawBody.drop 7) (lawEnv L fa cd)) Q E s := by
  replace F := fr_if F hw
  have a1' := a1
  have a2' := a2
  have a3' := a3
  obtain ⟨a11, a12, a13, a14, a15⟩ := a1
  obtain ⟨a21, a22, a23, a24, a25⟩ := a2
  obtain ⟨a31, a32, a33, a34, a35⟩ := a3
  have bl := below_size N
  simp only [AllLt, and_true] at bl
  revert X hE
  k_fill
  intro X hE
  dsimp only [lawA, lawEnv, lawBody, lawScope, lawFD, bodyOf, scopeOf, PySem.Challenge.pw_mr0165_01, List.getLastD, List.getLast, List.drop, List.getLast?] at hE ⊢
  (try k_fold)
  repeat' ((fail_if_success (with_reducible show LoopAtV _ _ _ _ _ _ _ _ _ _ _)); (fail_if_success (with_reducible show wpAny _ _ (pyIter _) _ _ _)); first | (k_unfold; (try dsimp only)) | (k_end; wrow_close) | walk1 | (dsimp only; walk1) | (leave1; walk_say "STEP leave1"; try dsimp only) | fail "no step")
  (rename IsRange _ _ _ _ _ _ _ _ => hR); (rename Fr _ _ _ _ => F1); (rename News _ _ _ _ => N1)
  have hlt := hS3.length
  refine range_invN (n := tc.length - 1) (news := ((lt, listOf ts.toArray nt) :: [(lr, listOf rs.toArray nr), (lw, listOf ws.toArray nw), (L + 5, o5), (L + 4, o4), (L + 3, o3), (L + 2, o2), (L + 1, o1)])) (fun i m₁ nx => nx = ((lt, listOf ts.toArray nt) :: [(lr, listOf rs.toArray nr), (lw, listOf ws.toArray nw), (L + 5, o5), (L + 4, o4), (L + 3, o3), (L + 2, o2), (L + 1, o1)]) ∧ m₁ (Str.ofString "words") = some (.ref lw)) rfl hR (small_up1 h1 (by omega)) (size_up1 h1) F1 N1 ⟨rfl, rfl⟩ ?_ ?_
  · clear F1 N1 hR
    rintro i t m₁ nx h tk own hi hadr hoff ⟨rfl, hmx⟩ F1 N1
    have em : (fun y => if y = Str.ofString "place" then some (Value.int (1 + (i : Int)) t) else m₁ y) = (fun y => if y = Str.ofString "place" then some (Value.int ((i + 1 : Nat) : Int) t) else if y = Str.ofString "words" then some (.ref lw) else m₁ y) := by
      funext y
      by_cases h1 : y = Str.ofString "place"
      · rw [if_pos h1, if_pos h1]; congr 2; omega
      · rw [if_neg h1, if_neg h1]
        by_cases h2 : y = Str.ofString "words"
        · rw [if_pos h2, h2]; exact hmx
        · rw [if_neg h2]
    rw [em] at F1
    have hi1 : i + 1 < tc.length := by omega
    have hi2 : i + 1 < xs.length := by omega
    have hb := hbr (i + 1) (by omega) hi1
    have hp1 : 0 < i + 1 := Nat.succ_pos _
    generalize i + 1 = p at *
    show wpAny _ _ (execs _ _) _ _ _
    (try k_fold)
    repeat' ((fail_if_success (with_reducible show InvEndN _ _ _ _ _ _ _)); (fail_if_success (with_reducible show False)); first | (k_unfold; (try dsimp only)) | (k_end; wrow_close) | walk1 | (dsimp only; walk1) | (leave1; walk_say "STEP leave1"; try dsimp only) | fail "no step")
    · (rename (_ = (2 : Int)) => k2); (rename ((_ != _) = true) => e2)
      exact (brk1 hb k2 e2).elim
    · (rename Fr _ _ _ _ => fE); (rename News _ _ _ _ => nE)
      exact InvEndN.intro (nx := ((lt, listOf ts.toArray nt) :: [(lr, listOf rs.toArray nr), (lw, listOf ws.toArray nw), (L + 5, o5), (L + 4, o4), (L + 3, o3), (L + 2, o2), (L + 1, o1)])) fE nE ⟨rfl, rfl⟩ rfl (fun p hp => List.mem_append.mpr (.inl hp)) (fun p hp => List.mem_append.mpr (.inr hp))
    · (rename (_ ≠ (2 : Int)) => k2); (rename ((_ != _) = true) => e2)
      exact (brk2 hb k2 e2).elim
    · (rename Fr _ _ _ _ => fE); (rename News _ _ _ _ => nE)
      exact InvEndN.intro (nx := ((lt, listOf ts.toArray nt) :: [(lr, listOf rs.toArray nr), (lw, listOf ws.toArray nw), (L + 5, o5), (L + 4, o4), (L + 3, o3), (L + 2, o2), (L + 1, o1)])) fE nE ⟨rfl, rfl⟩ rfl (fun p hp => List.mem_append.mpr (.inl hp)) (fun p hp => List.mem_append.mpr (.inr hp))
  · rintro m₁ nx h tk ⟨rfl, hmx⟩ F2 N2
    clear F1 N1 hR
    repeat' ((fail_if_success (with_reducible show wpAny _ _ (execs (Stmt.Assign _ _ _ :: _) _) _ _ _)); first | (k_unfold; (try dsimp only)) | (k_end; wrow_close) | walk1 | (dsimp only; walk1) | (leave1; walk_say "STEP leave1"; try dsimp only) | fail "no step")
    exact tailC B F2 X T N2 hmx c1 c2 c3 c4 c5 a1' a2' a3' b1 b2 b3 hS1 hS2 hS3 hl hz hz0 hl0 hl64 hqw hokq hok hp0 hso hp hp2 (fun h' tk m' F' => hQ h' tk m' F')
end Mine
end
section
open PySem PySem.W PyProof.Rows
namespace Mine
local macro_rules | `(tactic| walk_at "eval ListComp") => `(tactic| (k_here; (with_reducible show wpAny _ _ (eval (Expr.ListComp _ [_] _ _) _) _ _ _); k_dflt (refine LCg.ListComp_U (F₀ := by k_asm) (by with_unfolding_all rfl) (by decide) (by rfl) (by decide) (by rfl) ?_)))
local macro_rules | `(tactic| walk_at "exec Assign cons ListComp") => `(tactic| (k_here; (with_reducible show wpAny _ _ (exec (Stmt.Assign _ (Expr.ListComp _ [_] _ _) _) _) _ _ _); k_dflt (refine LCg.Assign_ListComp_U (F₀ := by k_asm) (by rfl) (by with_unfolding_all rfl) (by with_unfolding_all rfl) (by decide) (by rfl) (by decide) (by rfl) (by rfl) (by rfl) ?_)))
local macro_rules | `(tactic| k_ne) => `(tactic| (refine neN ?_; (try dsimp only); first | assumption | exact Ne.symm (by assumption) | exact addNe (by decide)))
local macro_rules | `(tactic| walk_at "call builtin:len") => `(tactic| (k_here; (with_reducible show wpAny _ _ (call (Value.builtin "len") [Value.ref _]) _ _ _); k_dflt (refine' slen ?N ?m ?i ?z ?_; (case N => k_asm); (case m => k_mem); (case i => assumption); (case z => omega); k_whole)))
theorem tailA {w : World} {mean : ExcName → Option Value} {mg mb : Str → Option Value} {base h₀ : Heap} {L fa : Addr} {cd : Value} {m : Str → Option Value} {s : Shared} {Q : Flow → Shared → Prop} {E : Value → Shared → Prop} {o1 o2 o3 o4 o5 : Obj} {lw : Addr} {ws : List Value} {zs qs : List Str} {nw : Nat} {v1 v2 v3 v4 v5 : Option Value} {mk : Str} {tm : Tok}
  (B : Below callerA base [] h₀) (F : Fr h₀ L s.heap m) (X : (hd.heap_39 w.params).In h₀) (T : Top hd.view_39 LO mean mg mb h₀) (hE : PassesOwn (model PySem.Challenge.rw_mr0165_01.row.prog w) (lawA L fa cd) (lawEnv L fa cd) E)
  (N : News h₀ L s.heap [(lw, listOf ws.toArray nw), (L + 5, o5), (L + 4, o4), (L + 3, o3), (L + 2, o2), (L + 1, o1)])
  (hw : m (Str.ofString "words") = some (.ref lw)) (hmk : m (Str.ofString "mark") = some (.str mk tm)) (c1 : o1.data = .cell v1) (c2 : o2.data = .cell v2) (c3 : o3.data = .cell v3) (c4 : o4.data = .cell v4) (c5 : o5.data = .cell v5)
  (a1 : Off5 L lw) (hS1 : StrsAre ws zs) (h1 : 0 < zs.length) (hl64 : zs.length < 64)
  (hm : 0 < mk.length) (hm2 : mk.length ≤ 16)
  (hsp : Txt.split (Txt.join mk (heapify slt zs)) mk = (heapify slt zs)) (hsp2 : Txt.split (Txt.join mk ((heapify slt zs).map Txt.capitalize)) mk = ((heapify slt zs).map great))
  (hjl : (Txt.join mk (heapify slt zs)).length ≤ 10000) (hjl2 : (Txt.join mk ((heapify slt zs).map Txt.capitalize)).length ≤ 10000) (hsum : ((heapify slt zs).map (·.length)).sum ≤ 10000)
  (hqw : ∀ x ∈ qs, x.length ≤ 1000) (htw : ∀ x ∈ (heapify slt zs), x.length ≤ 1000) (hokq : StrsOk qs) (hokr : StrsOk ((heapify slt zs).map great)) (hok : StrsOk ((List.range 4).flatMap fun (k : Nat) => (qs.filter fun x => decide (kindI x = (k : Int))).map great))
  (hbr : ∀ i, 0 < i → i < (heapify slt zs).length → slt (((heapify slt zs).map great).getD i Str.empty) (((heapify slt zs).map great).getD ((i - 1) / 2) Str.empty) = (decide (kindI ((heapify slt zs).getD ((i - 1) / 2) Str.empty) = 2) && decide (kindI ((heapify slt zs).getD i Str.empty) = 1)))
  (hp0 : popAll slt zs.length (heapify slt zs) = qs) (hso : ∀ ss, ss.Perm zs → sortedS ss = true → ss = qs)
  (hp : popAll slt zs.length (heapify slt ((heapify slt zs).map great)) = ((List.range 4).flatMap fun (k : Nat) => (qs.filter fun x => decide (kindI x = (k : Int))).map great)) (hp2 : popAll sgt zs.length (heapify sgt ((heapify slt zs).map great)) = ((List.range 4).flatMap fun (k : Nat) => (qs.filter fun x => decide (kindI x = (k : Int))).map great).reverse)
  (hQ : ∀ h' tk m', Fr h₀ L h' m' → Q (.ret (.bool true)) { s with heap := h', toks := tk }) : wpAny (model PySem.Challenge.rw_mr0165_01.row.prog w) (lawA L fa cd) (execs (lawBody.drop 3) (lawEnv L fa cd)) Q E s := by
  replace F := fr_if (fr_if F hmk) (x := Str.ofString "words") (v := .ref lw) hw
  have a1' := a1
  obtain ⟨a11, a12, a13, a14, a15⟩ := a1
  have bl := below_size N
  simp only [AllLt, and_true] at bl
  revert X hE
  k_fill
  intro X hE
  dsimp only [lawA, lawEnv, lawBody, lawScope, lawFD, bodyOf, scopeOf, PySem.Challenge.pw_mr0165_01, List.getLastD, List.getLast, List.drop, List.getLast?] at hE ⊢
  (try k_fold)
  repeat' ((fail_if_success (with_reducible show wpAny _ _ (storeName _ _ _) _ _ _)); first | (k_unfold; (try dsimp only)) | (k_end; wrow_close) | walk1 | (dsimp only; walk1) | (leave1; walk_say "STEP leave1"; try dsimp only) | fail "no step")
  (rename Fr _ _ _ _ => F1); (rename News _ _ _ _ => N1)
  rw [slicePick_all] at N1
  obtain ⟨lt, hlt⟩ : ∃ lt : Addr, lt = s.heap.objs.size + 1 := ⟨_, rfl⟩
  rw [← hlt] at N1
  rw [← hlt]
  have c9 : (@Ne Nat lw lt) ∧ Off5 L lt := by rw [hlt]; unfold Off5; clear a11 a12 a13 a14 a15; omega
  obtain ⟨b2, a3⟩ := c9
  have a3' := a3
  obtain ⟨a31, a32, a33, a34, a35⟩ := a3
  clear hlt bl
  repeat' ((fail_if_success (with_reducible show wpAny _ _ (call (Value.ref 28) _) _ _ _)); first | (k_unfold; (try dsimp only)) | (k_end; wrow_close) | walk1 | (dsimp only; walk1) | (leave1; walk_say "STEP leave1"; try dsimp only) | fail "no step")
  (rename Fr _ _ _ _ => F1); (rename News _ _ _ _ => N1); (rename Obj => o1n); (rename (_ = Data.cell (some (Value.ref lt))) => c1n)
  have N2 : News h₀ L _ ((lt, listOf ws.toArray 0) :: [(lw, listOf ws.toArray nw), (L + 5, o5), (L + 4, o4), (L + 3, o3), (L + 2, o2), (L + 1, o1n)]) := N1
  clear N1
  refine hf_min B F1 X N2 T rfl (by k_all) hS1 (by omega) (by ktr_room) (by ktr_units) ?_
  clear F1 N2
  intro ts h2 tk2 S1 F1 N1
  have htl : (heapify slt zs).length = zs.length := by rw [heapify_length]
  have hlt := S1.length
  repeat' ((fail_if_success (with_reducible show wpAny _ _ (call (Value.builtin "str.join") _) _ _ _)); first | (k_unfold; (try dsimp only)) | (k_end; wrow_close) | walk1 | (dsimp only; walk1) | (leave1; walk_say "STEP leave1"; try dsimp only) | fail "no step")
  refine join_listW (x := mk) (PySem.IsL.isList (n := 0) (N1 (lt, listOf ts.toArray 0) (by k_mem)).1) S1 hm2 (by omega) ?_
  intro tj kj
  repeat' ((fail_if_success (with_reducible show wpAny _ _ (call (Value.ref 78) _) _ _ _)); first | (k_unfold; (try dsimp only)) | (k_end; wrow_close) | walk1 | (dsimp only; walk1) | (leave1; walk_say "STEP leave1"; try dsimp only) | fail "no step")
  refine capw B F1 X N1 T rfl hm hm2 hjl hsp (by omega) htw (by ktr_room) (by ktr_units) ?_
  clear F1 N1
  intro t3 h3 tk3 F1 N1
  repeat' ((fail_if_success (with_reducible show wpAny _ _ (call (Value.builtin "str.split") _) _ _ _)); first | (k_unfold; (try dsimp only)) | (k_end; wrow_close) | walk1 | (dsimp only; walk1) | (leave1; walk_say "STEP leave1"; try dsimp only) | fail "no step")
  refine KSpl.split1 F1 N1 (by simp; omega) ?_ (by rw [PySem.sizeLine_eq]; omega)
  clear F1 N1
  intro lr sl h4 k4 hsl hS2 F1 N1 lt1
  rw [hsl, hsp2] at hS2
  clear hsl
  have d0 : AllLt lr [(lt, listOf ts.toArray 0), (lw, listOf ws.toArray nw), (L + 5, o5), (L + 4, o4), (L + 3, o3), (L + 2, o2), (L + 1, o1n)] := allLt_of lt1
  simp only [AllLt, and_true] at d0
  have c9 : (@Ne Nat lw lr) ∧ (@Ne Nat lr lt) ∧ Off5 L lr := by unfold Off5; clear a11 a12 a13 a14 a15 a31 a32 a33 a34 a35; omega
  clear d0 lt1
  obtain ⟨b1, b3, a2⟩ := c9
  have a2' := a2
  obtain ⟨a21, a22, a23, a24, a25⟩ := a2
  repeat' ((fail_if_success (with_reducible show LCg.CompSrc _ _ _ _ _ _ _ _ _ _ _ _ _ _)); first | (k_unfold; (try dsimp only)) | (k_end; wrow_close) | walk1 | (dsimp only; walk1) | (leave1; walk_say "STEP leave1"; try dsimp only) | fail "no step")
  (rename Fr _ _ _ _ => F1); (rename News _ _ _ _ => N1); (rename Obj => o2n); (rename (_ = Data.cell (some (Value.ref lr))) => c2n)
  have N2 : News h₀ L _ ((lt, listOf ts.toArray 0) :: [(lr, listOf (strValues sl).toArray 0), (lw, listOf ws.toArray nw), (L + 5, o5), (L + 4, o4), (L + 3, o3), (L + 2, o2n), (L + 1, o1n)]) := fun p hp => N1 p (swp3 hp)
  clear N1
  refine LCg.CompSrc.ledger rfl F1 N2 (by k_mem) (by rw [PySem.sizeLine_eq, List.size_toArray]; omega) ?_
  intro gh
  refine compRest_inv (fun i ys' nX => nX = ((lt, listOf ts.toArray 0) :: [(lr, listOf (strValues sl).toArray 0), (lw, listOf ws.toArray nw), (L + 5, o5), (L + 4, o4), (L + 3, o3), (L + 2, o2n), (L + 1, o1n)]) ∧ StrsAre ys' (((heapify slt zs).map great).take i)) ?_ ?_ _ _ _ _ (Nat.zero_add _) ⟨rfl, .nil⟩
  · clear F1 N2
    rintro i ys' nX v I oI C oC D m₂ h tk E' hi ⟨rfl, hys⟩ hv hC hx F2 N2 off ne
    rw [List.size_toArray] at hi
    obtain ⟨x, tx, rfl, hxx⟩ := strs_at S1 (by simpa using hv)
    show wpAny _ _ (eval _ _) _ _ _
    (try k_fold)
    repeat' ((fail_if_success (with_reducible show wpAny _ _ (call (Value.ref 90) _) _ _ _)); first | (k_unfold; (try dsimp only)) | (k_end; wrow_close) | walk1 | (dsimp only; walk1) | (leave1; walk_say "STEP leave1"; try dsimp only) | fail "no step")
    refine lgreat B F2 X N2 T rfl (htw x (List.mem_of_getElem? hxx)) (by ktr_room) (by ktr_units) ?_
    clear F2 N2
    intro t7 h7 tk7 F2 N2
    show LCg.CompEnd _ _ _ _ _ _ _ _ _ _ _ _ _ _
    refine LCg.CompEnd.intro F2 N2 ((lt, listOf ts.toArray 0) :: [(lr, listOf (strValues sl).toArray 0), (lw, listOf ws.toArray nw), (L + 5, o5), (L + 4, o4), (L + 3, o3), (L + 2, o2n), (L + 1, o1n)]) (fun p hp => hp) off (.inr ⟨_, by k_mem, rfl, _, rfl⟩) ⟨rfl, ?_⟩
    rw [take_map_succ hxx]
    exact strs_snoc hys
  · rintro ys' nX ⟨rfl, hys⟩
    rw [List.take_of_length_le (by rw [List.length_map, List.size_toArray]; omega)] at hys
    clear F1 N2
    unfold LCg.FinE
    intro D h tk F4 N4 off4
    (try simp only [LCg.Off1, and_true] at off4)
    dsimp only
    repeat' ((fail_if_success (with_reducible show wpAny _ _ (compareOp _ _ _) _ _ _)); first | (k_unfold; (try dsimp only)) | (k_end; wrow_close) | walk1 | (dsimp only; walk1) | (leave1; walk_say "STEP leave1"; try dsimp only) | fail "no step")
    refine ne_strs (PySem.IsL.isList (n := 0) (N4 (lr, listOf (strValues sl).toArray 0) (by k_mem)).1) hS2 (PySem.IsL.isList (n := ys'.length) (N4 (D, LCg.lst ys') (by k_mem)).1) hys hokr hokr (by ktr_units) ?_
    rw [decide_eq_true (rfl : ((heapify slt zs).map great) = ((heapify slt zs).map great))]
    repeat' ((fail_if_success (with_reducible show wpAny _ _ (execs (Stmt.For _ _ _ _ _ :: _) _) _ _ _)); first | (k_unfold; (try dsimp only)) | (k_end; wrow_close) | walk1 | (dsimp only; walk1) | (leave1; walk_say "STEP leave1"; try dsimp only) | fail "no step")
    have hz0 : zs.length = (heapify slt zs).length := htl.symm
    have hz : zs.length = ((heapify slt zs).map great).length := by rw [List.length_map]; exact hz0
    rw [hz0] at hp0
    rw [hz] at hp hp2
    exact tailB B F4 X T hE (fun p hp => N4 p (List.mem_cons_of_mem _ hp)) (by rfl) c1n c2n c3 c4 c5 a1' a2' a3' b1 b2 b3 hS1 hS2 S1 (by omega) hz hz0 (by omega) hl64 hqw htw hokq hok (by omega) hbr hp0 hso hp hp2 (fun h' tk m' F' => hQ h' tk m' F')
end Mine
end
section
open PySem PySem.W PyProof.Rows
namespace Mine
local macro_rules | `(tactic| walk_at "eval ListComp") => `(tactic| (k_here; (with_reducible show wpAny _ _ (eval (Expr.ListComp _ [_] _ _) _) _ _ _); k_dflt (refine LCg.ListComp_U (F₀ := by k_asm) (by with_unfolding_all rfl) (by decide) (by rfl) (by decide) (by rfl) ?_)))
local macro_rules | `(tactic| walk_at "exec Assign cons ListComp") => `(tactic| (k_here; (with_reducible show wpAny _ _ (exec (Stmt.Assign _ (Expr.ListComp _ [_] _ _) _) _) _ _ _); k_dflt (refine LCg.Assign_ListComp_U (F₀ := by k_asm) (by rfl) (by with_unfolding_all rfl) (by with_unfolding_all rfl) (by decide) (by rfl) (by decide) (by rfl) (by rfl) (by rfl) ?_)))
theorem ints_snoc {y : Int} {t : Tok} : ∀ {vs : List Value} {ys : List Int}, IntsAre vs ys → IntsAre (vs ++ [.int y t]) (ys ++ [y])
  | _, _, .nil => .cons y t .nil
  | _, _, .cons z u r => .cons z u (ints_snoc r)
def CellsOk (ks : List Int) : Prop := ∀ k ∈ ks, 0 ≤ k ∧ k < 10 ^ 6
theorem mod6 (k : Int) : 0 ≤ k.fmod (10 ^ Int.toNat 6) ∧ k.fmod (10 ^ Int.toNat 6) < 10 ^ 6 := by
  have e : (10 : Int) ^ Int.toNat 6 = 1000000 := rfl
  rw [e, Int.fmod_eq_emod_of_nonneg _ (by decide)]
  omega
theorem mod5 (k : Int) : 0 ≤ k.fmod 5 ∧ k.fmod 5 < 5 := by
  rw [Int.fmod_eq_emod_of_nonneg _ (by decide)]; omega
theorem tupIn {h₀ h : Heap} {L D : Addr} {news : List (Addr × Obj)} {items : Array Value} (N : News h₀ L h news) (hm : (D, ({ cls := .type "tuple", data := .seq items 0 } : Obj)) ∈ news) : IsTup h D items := ⟨_, (N _ hm).1, rfl, _, rfl⟩
theorem mem8 {α : Type} {a x1 x2 x3 x4 x5 x6 x7 x8 p : α} {r : List α} (h : p ∈ a :: r) : p ∈ a :: x1 :: x2 :: x3 :: x4 :: x5 :: x6 :: x7 :: x8 :: r := by
  rcases List.mem_cons.mp h with q | h
  · exact List.mem_cons.mpr (.inl q)
  · exact List.mem_cons_of_mem _ (List.mem_cons_of_mem _ (List.mem_cons_of_mem _ (List.mem_cons_of_mem _ (List.mem_cons_of_mem _ (List.mem_cons_of_mem _ (List.mem_cons_of_mem _ (List.mem_cons_of_mem _ (List.mem_cons_of_mem _ h))))))))
theorem head_of (pf : ∀ mk zs, mk ∈ marks → (∀ z ∈ zs, WordOk z) → 0 < zs.length → zs.length ≤ 13 → ∃ qs, PureFacts mk zs qs) : PySem.Challenge.rw_mr0165_01.Holds := hd (by
  k_go0
  all_goals try k_fold
  repeat' ((fail_if_success (with_reducible show LCg.CompSrc _ _ _ _ _ _ _ _ _ _ _ _ _ _)); first | (k_unfold; (try dsimp only)) | (k_end; wrow_close) | walk1 | (dsimp only; walk1) | (leave1; walk_say "STEP leave1"; try dsimp only) | fail "no step")
  (rename Fr _ _ _ _ => lF); (rename News _ _ _ _ => lN); (rename IntsAre _ (List.take _ _) => hI7); (rename ((List.take 7 _).length = _) => hl7)
  have hz7 := hI7.length
  refine LCg.CompSrc.ledger rfl lF lN (List.mem_cons_self ..) (by rw [PySem.sizeLine_eq, List.size_toArray]; omega) ?_
  intro gh
  refine compRest_inv (fun i ys nX => nX = _ ∧ ∃ ks, IntsAre ys ks ∧ ks.length = i ∧ CellsOk ks) ?_ ?_ _ _ _ _ (Nat.zero_add _) ⟨rfl, [], .nil, rfl, fun _ hc => nomatch hc⟩
  · clear lF lN
    rintro i ys nX v I oI C oC D m₂ h tk E' hi ⟨rfl, ks, hks, hkl, hko⟩ hv hC hx F N off ne
    obtain ⟨kk, tt, rfl, hkk⟩ := IntsAre.at hI7 i v (by simpa using hv)
    show wpAny _ _ (eval _ _) _ _ _
    (try k_fold)
    repeat' ((fail_if_success (with_reducible show LCg.CompEnd _ _ _ _ _ _ _ _ _ _ _ _ _ _)); first | (k_unfold; (try dsimp only)) | (k_end; wrow_close) | walk1 | (dsimp only; walk1) | (leave1; walk_say "STEP leave1"; try dsimp only) | fail "no step")
    show LCg.CompEnd _ _ _ _ _ _ _ _ _ _ _ _ _ _
    refine LCg.CompEnd.intro F N _ (fun p hp => hp) off (.inr ⟨_, List.mem_cons_self, rfl, _, rfl⟩) ⟨rfl, ks ++ [_], ints_snoc hks, ?_, ?_⟩
    · rw [List.length_append, hkl]; rfl
    · intro k hk
      rcases List.mem_append.mp hk with q | q
      · exact hko k q
      · rw [List.mem_singleton.mp q]; exact mod6 kk
  · rintro ys nX ⟨rfl, ks, hks, hkl, hko⟩
    clear lF lN
    unfold LCg.FinA
    intro D h tk F N o1
    (try simp only [LCg.Off1, and_true] at o1)
    dsimp only
    repeat' ((fail_if_success (with_reducible show wpAny _ _ (binaryOp Operator.Mod _ _) _ _ _)); first | (k_unfold; (try dsimp only)) | (k_end; wrow_close) | walk1 | (dsimp only; walk1) | (leave1; walk_say "STEP leave1"; try dsimp only) | fail "no step")
    walk1
    repeat' ((fail_if_success (with_reducible show wpAny _ _ (subscriptTail _ _ _ _) _ _ _)); first | (k_unfold; (try dsimp only)) | (k_end; wrow_close) | walk1 | (dsimp only; walk1) | (leave1; walk_say "STEP leave1"; try dsimp only) | fail "no step")
    (rename Fr _ _ _ _ => F); (rename News _ _ _ _ => N)
    have hm5 := mod5 ((ks ++ [0]).getD (Int.toNat 0) 0)
    refine KTb.item_tup (ws := marks) (vs := [.str _ _, .str _ _, .str _ _, .str _ _, .str _ _]) (tupIn N (List.mem_cons_of_mem _ (List.mem_cons_of_mem _ List.mem_cons_self))) (.cons _ _ (.cons _ _ (.cons _ _ (.cons _ _ (.cons _ _ .nil))))) hm5.1 (show _ < (5 : Int) from hm5.2) (by omega) ?_
    intro tm himk
    have hmk := marks_mem himk
    generalize marks.getD _ Str.empty = mk at hmk ⊢
    clear hm5 himk
    repeat' ((fail_if_success (with_reducible show LCg.CompSrc _ _ _ _ _ _ _ _ _ _ _ _ _ _)); first | (k_unfold; (try dsimp only)) | (k_end; wrow_close) | walk1 | (dsimp only; walk1) | (leave1; walk_say "STEP leave1"; try dsimp only) | fail "no step")
    (rename Fr _ _ _ _ => F); (rename News _ _ _ _ => N); (rename IntsAre _ (List.drop 1 _) => hI6); (rename ((List.drop 1 _).length = _) => hl6)
    have hz6 := hI6.length
    have hk7 : ks.length ≤ 7 := by rw [hkl, List.size_toArray, hz7, hl7]; omega
    refine LCg.CompSrc.ledger rfl F N (List.mem_cons_self ..) (by rw [PySem.sizeLine_eq, List.size_toArray]; omega) ?_
    intro gh6
    refine compRest_inv (fun i ys nX => nX = _ ∧ ∃ cs : List Str, StrsAre ys cs ∧ cs.length = i ∧ ∀ c ∈ cs, WordOk c) ?_ ?_ _ _ _ _ (Nat.zero_add _) ⟨rfl, [], .nil, rfl, fun _ hc => nomatch hc⟩
    · clear F N
      rintro i ys6 nX v I oI C oC D m₂ h tk E' hi ⟨rfl, cs, hcs, hcl, hco⟩ hv hC hx F N off ne
      obtain ⟨kk, tt, rfl, hkk⟩ := IntsAre.at hI6 i v (by simpa using hv)
      have hkb := hko kk (List.mem_of_mem_drop (List.mem_of_getElem? hkk))
      show wpAny _ _ (eval _ _) _ _ _
      (try k_fold)
      repeat' ((fail_if_success (with_reducible show wpAny _ _ (call (Value.ref 83) _) _ _ _)); first | (k_unfold; (try dsimp only)) | (k_end; wrow_close) | walk1 | (dsimp only; walk1) | (leave1; walk_say "STEP leave1"; try dsimp only) | fail "no step")
      refine lword (by k_asm) F (by k_asm) N (by k_asm) rfl hkb.1 hkb.2 (by ktr_room) (by ktr_units) ?_
      clear F N
      intro y7 t7 h7 tk7 hy7 F N
      show LCg.CompEnd _ _ _ _ _ _ _ _ _ _ _ _ _ _
      refine LCg.CompEnd.intro F N _ (fun p hp => hp) off (.inr ⟨_, List.mem_cons_self, rfl, _, rfl⟩) ⟨rfl, cs ++ [_], strs_snoc hcs, ?_, ?_⟩
      · rw [List.length_append, hcl]; rfl
      · intro c hc
        rcases List.mem_append.mp hc with q | q
        · exact hco c q
        · rw [List.mem_singleton.mp q]; exact hy7
    · rintro ys6 nX ⟨rfl, cs, hcs, hcl, hco⟩
      clear F N
      unfold LCg.FinE
      intro D6 h6 tk6 F N o6
      (try simp only [LCg.Off1, and_true] at o6)
      dsimp only
      repeat' ((fail_if_success (with_reducible show wpAny _ _ (binaryOp Operator.Add _ _) _ _ _)); first | (k_unfold; (try dsimp only)) | (k_end; wrow_close) | walk1 | (dsimp only; walk1) | (leave1; walk_say "STEP leave1"; try dsimp only) | fail "no step")
      have bl := below_size N
      refine add_lists (vs := [.str _ _, .str _ _, .str _ _, .str _ _, .str _ _, .str _ _, .str _ _]) (ws := ys6) F N (PySem.IsL.isList (n := 0) (N _ (List.mem_cons_of_mem _ (List.mem_cons_of_mem _ List.mem_cons_self))).1) (PySem.IsL.isList (n := ys6.length) (N _ List.mem_cons_self).1) ?_ (hsz := by rw [PySem.sizeLine_eq, hcs.length]; show 7 + _ ≤ _; rw [hcl, List.size_toArray]; omega)
      clear F N
      intro h8 F N
      repeat' ((fail_if_success (with_reducible show wpAny _ _ (execs (Stmt.Assign _ (Expr.Subscript _ _ _) _ :: _) _) _ _ _)); first | (k_unfold; (try dsimp only)) | (k_end; wrow_close) | walk1 | (dsimp only; walk1) | (leave1; walk_say "STEP leave1"; try dsimp only) | fail "no step")
      (rename Fr _ _ _ _ => F); (rename News _ _ _ _ => N)
      have hlw : cs.length ≤ 6 := by rw [hcl, List.size_toArray, hz6, hl6]; omega
      obtain ⟨qs, pf⟩ := pf mk (base7 ++ cs) hmk (by
        intro z hz
        rcases List.mem_append.mp hz with q | q
        · exact base7_ok z q
        · exact hco z q) (by rw [List.length_append]; show 0 < 7 + _; omega) (by rw [List.length_append]; show 7 + _ ≤ _; omega)
      refine' tailA ?kB F ?kX ?kT ?kE (fun p hp => N p (mem8 hp)) rfl rfl ?c1 ?c2 ?c3 ?c4 ?c5 ?a1 (zs := base7 ++ cs) (.cons _ _ (.cons _ _ (.cons _ _ (.cons _ _ (.cons _ _ (.cons _ _ (.cons _ _ hcs))))))) (by rw [List.length_append]; show 0 < 7 + _; omega) (by rw [List.length_append]; show 7 + _ < _; omega) pf.hm pf.hm2 pf.hsp pf.hsp2 pf.hjl pf.hjl2 pf.hsum pf.hqw pf.htw pf.hokq pf.hokr pf.hok pf.hbr pf.hp0 pf.hso pf.hp pf.hp2 ?fin
      case kB => k_asm
      case kX => k_asm
      case kT => k_asm
      case kE => passes_own
      case c1 => assumption
      case c2 => assumption
      case c3 => assumption
      case c4 => assumption
      case c5 => assumption
      case a1 =>
        simp only [AllLt, and_true] at bl
        refine off5_of ?_
        show @LT.lt Nat _ _ h6.objs.size
        omega
      case fin =>
        intro hf tkf mf Ff
        first | wrow_close | (k_end; wrow_close))
end Mine
end
theorem PySem.Challenge.cw_mr0165_01_holds : PySem.Challenge.rw_mr0165_01.Holds :=
  Mine.head_of Mine.pure_facts
