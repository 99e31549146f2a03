import PyProof.Rows.All
import Wide.All
import OpenK.AllK
import Wide.FinOn
import PySem.Challenge.RW_hm0002_01
open PySem PySem.W PyProof.Rows
set_option Elab.async false
set_option maxRecDepth 100000
namespace Mine
open PySem.Calls
/-- what the law keeps of the list that it lays in order -/
structure Ord (os : List Int) : Prop where
  sorted : os.Pairwise (· ≤ ·)
  lo : ∀ v ∈ os, 0 ≤ v
  hi : ∀ v ∈ os, v ≤ 40

theorem Ord.nil : Ord [] := ⟨List.Pairwise.nil, by simp, by simp⟩

section
variable {prog : Program} {w : World} {A : Around} {E : Value → Shared → Prop} {s : Shared} {env : Env} {h₀ : Heap} {x : Str} {body : List Stmt} {Q : Flow → Shared → Prop}

theorem map_none' {m₁ m₀ : Str → Option Value} {v : Value} (hm : ∀ z, z ≠ x → m₁ z = m₀ z) : (fun z => if z = x then some v else m₁ z) = fun z => if z = x then some v else m₀ z := by
  funext z
  by_cases h : z = x
  · simp [h]
  · simp only [if_neg h]; exact hm z h
theorem done_none' {m₁ m₀ : Str → Option Value} (hm : ∀ z, z ≠ x → m₁ z = m₀ z) : (fun z => if z = x then m₁ z else m₀ z) = m₁ := by
  funext z
  by_cases h : z = x
  · simp [h]
  · simp only [if_neg h]; exact (hm z h).symm

def InsJ (D l : Addr) (ws : List Value) (nD : Nat) (rest : List (Addr × Obj)) (x : Str) (m₀ : Str → Option Value) (i : Nat) (m : Str → Option Value) (nx : List (Addr × Obj)) : Prop :=
  (∃ (us : List Value) (os : List Int) (nn : Nat), nx = (D, listOf ws.toArray nD) :: (l, listOf us.toArray nn) :: rest ∧ IntsAre us os ∧ Ord os ∧ os.length = i) ∧ ∀ z, z ≠ x → m z = m₀ z

/-- the loop that lays the numbers in order, one by one -/
theorem ins_iter {D l : Addr} {ws : List Value} {ns : List Int} {nD n0 : Nat} {m₀ : Str → Option Value} {rest : List (Addr × Obj)}
    (hh : A.handled = none) (F : Fr h₀ env.locals s.heap m₀) (N : News h₀ env.locals s.heap ((D, listOf ws.toArray nD) :: (l, listOf ([] : List Value).toArray n0) :: rest)) (hi : IntsAre ws ns)
    (turn : ∀ (us : List Value) (os : List Int) (nn : Nat) (n : Int) (t : Tok) (h : Heap) (tk : Nat) (own : List (Addr × Obj)), Ord os → os.length < ns.length → IntsAre us os → OwnOff own (D :: l :: rest.map (·.1)) →
      Fr h₀ env.locals h (fun y => if y = x then some (.int n t) else m₀ y) → News h₀ env.locals h ((D, listOf ws.toArray nD) :: (l, listOf us.toArray nn) :: (rest ++ own)) →
      wpAny (model prog w) A (execs body env) (InvPostN h₀ env.locals (InsJ D l ws nD rest x m₀ (os.length + 1)) own (D :: l :: rest.map (·.1)) { s with heap := h, toks := tk } Q) E { s with heap := h, toks := tk })
    (done : ∀ (us : List Value) (os : List Int) (nn : Nat) (u : Str → Option Value) (h : Heap) (tk : Nat), Ord os → os.length = ns.length → IntsAre us os → Fr h₀ env.locals h (fun y => if y = x then u y else m₀ y) →
      News h₀ env.locals h ((D, listOf ws.toArray nD) :: (l, listOf us.toArray nn) :: rest) → Q .next { s with heap := h, toks := tk }) :
    wpAny (model prog w) A (pyIter (.ref D)) (fun it s₂ => LoopAtV prog w A h₀ env x body Q E it s₂) E s := by
  refine iter_invNL (fun i m nx => InsJ D l ws nD rest x m₀ i m nx) hh (.head _) hi F N ⟨⟨[], [], n0, rfl, .nil, Ord.nil, rfl⟩, fun _ _ => rfl⟩ ?_ ?_
  · rintro i n t m₁ nx h tk own hn _ hoff _ ⟨⟨us, os, nn, rfl, hu, ho, rfl⟩, hm⟩ F₁ N₁
    rw [map_none' hm] at F₁
    have hlt : os.length < ns.length := by
      rcases Nat.lt_or_ge os.length ns.length with h1 | h1
      · exact h1
      · rw [List.getElem?_eq_none h1] at hn; cases hn
    simp only [List.map_cons] at hoff ⊢
    refine wpAny_mono (turn us os nn n t h tk own ho hlt hu hoff F₁ N₁) (fun f s₂ p => ?_) fun _ _ e => e
    have up : InvEndN h₀ env.locals (InsJ D l ws nD rest x m₀ (os.length + 1)) own (D :: l :: rest.map (·.1)) { s with heap := h, toks := tk } s₂ →
        InvEndN h₀ env.locals (fun m' nx => (D, listOf ws.toArray nD) ∈ nx ∧ InsJ D l ws nD rest x m₀ (os.length + 1) m' nx) own (D :: l :: rest.map (·.1)) { s with heap := h, toks := tk } s₂ := by
      rintro ⟨h', tk', m', news', nx, e, F', N', hn', ho', ha, hS⟩
      refine ⟨h', tk', m', news', nx, e, F', N', hn', ho', ha, ?_, hS⟩
      obtain ⟨⟨us', os', nn', rfl, _⟩, _⟩ := hS
      exact .head _
    cases f with
    | ret v => exact p
    | brk => exact p
    | next => exact up p
    | cont => exact up p
  · rintro m₁ nx h tk _ ⟨⟨us, os, nn, rfl, hu, ho, hl⟩, hm⟩ F₁ N₁
    exact done us os nn m₁ h tk ho hl hu (by rw [done_none' hm]; exact F₁) N₁
end

/-- bisect_left's word between two turns: what lies left of lo is less, what lies from hi on is not -/
def BL (a : List Int) (x lo hi : Int) : Prop :=
  (∀ i : Nat, (i : Int) < lo → i < a.length → a.getD i 0 < x) ∧ (∀ i : Nat, hi ≤ (i : Int) → i < a.length → x ≤ a.getD i 0)
/-- bisect_right's word -/
def BR (a : List Int) (x lo hi : Int) : Prop :=
  (∀ i : Nat, (i : Int) < lo → i < a.length → a.getD i 0 ≤ x) ∧ (∀ i : Nat, hi ≤ (i : Int) → i < a.length → x < a.getD i 0)

theorem getD_mono {a : List Int} (h : a.Pairwise (· ≤ ·)) {i j : Nat} (hij : i ≤ j) (hj : j < a.length) : a.getD i 0 ≤ a.getD j 0 :=
  PyProof.Rows.sorted_getD_le h hij hj

theorem mid_facts {lo hi : Int} (h0 : 0 ≤ lo) (h1 : lo < hi) : lo ≤ (lo + hi).fdiv 2 ∧ (lo + hi).fdiv 2 < hi ∧ 0 ≤ (lo + hi).fdiv 2 ∧ (((lo + hi).fdiv 2).toNat : Int) = (lo + hi).fdiv 2 := by
  have e : (lo + hi).fdiv 2 = (lo + hi) / 2 := Int.fdiv_eq_ediv_of_nonneg _ (by omega)
  rw [e]; omega

theorem bl_start (a : List Int) (x : Int) : 0 ≤ (0 : Int) ∧ (0 : Int) ≤ (a.length : Int) ∧ (a.length : Int) ≤ (a.length : Int) ∧ BL a x 0 (a.length : Int) :=
  ⟨by omega, by omega, by omega, fun i h => by omega, fun i h h' => by omega⟩
theorem bl_up {a : List Int} {x lo hi : Int} (ho : Ord a) (h0 : 0 ≤ lo) (h1 : lo < hi) (h2 : hi ≤ (a.length : Int)) (hb : BL a x lo hi) (ht : a.getD ((lo + hi).fdiv 2).toNat 0 < x) :
    0 ≤ (lo + hi).fdiv 2 + 1 ∧ (lo + hi).fdiv 2 + 1 ≤ hi ∧ hi ≤ (a.length : Int) ∧ BL a x ((lo + hi).fdiv 2 + 1) hi := by
  obtain ⟨m1, m2, m3, m4⟩ := mid_facts h0 h1
  refine ⟨by omega, by omega, h2, fun i h h' => ?_, hb.2⟩
  have := getD_mono ho.sorted (i := i) (j := ((lo + hi).fdiv 2).toNat) (by omega) (by omega)
  omega
theorem bl_dn {a : List Int} {x lo hi : Int} (ho : Ord a) (h0 : 0 ≤ lo) (h1 : lo < hi) (h2 : hi ≤ (a.length : Int)) (hb : BL a x lo hi) (ht : ¬ a.getD ((lo + hi).fdiv 2).toNat 0 < x) :
    0 ≤ lo ∧ lo ≤ (lo + hi).fdiv 2 ∧ (lo + hi).fdiv 2 ≤ (a.length : Int) ∧ BL a x lo ((lo + hi).fdiv 2) := by
  obtain ⟨m1, m2, m3, m4⟩ := mid_facts h0 h1
  refine ⟨h0, m1, by omega, hb.1, fun i h h' => ?_⟩
  have := getD_mono ho.sorted (i := ((lo + hi).fdiv 2).toNat) (j := i) (by omega) h'
  omega
theorem br_start (a : List Int) (x : Int) : 0 ≤ (0 : Int) ∧ (0 : Int) ≤ (a.length : Int) ∧ (a.length : Int) ≤ (a.length : Int) ∧ BR a x 0 (a.length : Int) :=
  ⟨by omega, by omega, by omega, fun i h => by omega, fun i h h' => by omega⟩
theorem br_up {a : List Int} {x lo hi : Int} (ho : Ord a) (h0 : 0 ≤ lo) (h1 : lo < hi) (h2 : hi ≤ (a.length : Int)) (hb : BR a x lo hi) (ht : ¬ x < a.getD ((lo + hi).fdiv 2).toNat 0) :
    0 ≤ (lo + hi).fdiv 2 + 1 ∧ (lo + hi).fdiv 2 + 1 ≤ hi ∧ hi ≤ (a.length : Int) ∧ BR a x ((lo + hi).fdiv 2 + 1) hi := by
  obtain ⟨m1, m2, m3, m4⟩ := mid_facts h0 h1
  refine ⟨by omega, by omega, h2, fun i h h' => ?_, hb.2⟩
  have := getD_mono ho.sorted (i := i) (j := ((lo + hi).fdiv 2).toNat) (by omega) (by omega)
  omega
theorem br_dn {a : List Int} {x lo hi : Int} (ho : Ord a) (h0 : 0 ≤ lo) (h1 : lo < hi) (h2 : hi ≤ (a.length : Int)) (hb : BR a x lo hi) (ht : x < a.getD ((lo + hi).fdiv 2).toNat 0) :
    0 ≤ lo ∧ lo ≤ (lo + hi).fdiv 2 ∧ (lo + hi).fdiv 2 ≤ (a.length : Int) ∧ BR a x lo ((lo + hi).fdiv 2) := by
  obtain ⟨m1, m2, m3, m4⟩ := mid_facts h0 h1
  refine ⟨h0, m1, by omega, hb.1, fun i h h' => ?_⟩
  have := getD_mono ho.sorted (i := ((lo + hi).fdiv 2).toNat) (j := i) (by omega) h'
  omega
theorem ms_up {lo hi : Int} (h0 : 0 ≤ lo) (h1 : lo < hi) : (hi - ((lo + hi).fdiv 2 + 1)).toNat < (hi - lo).toNat := by
  obtain ⟨m1, m2, m3, m4⟩ := mid_facts h0 h1
  omega
theorem ms_dn {lo hi : Int} (h0 : 0 ≤ lo) (h1 : lo < hi) : ((lo + hi).fdiv 2 - lo).toNat < (hi - lo).toNat := by
  obtain ⟨m1, m2, m3, m4⟩ := mid_facts h0 h1
  omega

theorem mem_getD {a : List Int} {v : Int} (h : v ∈ a) : ∃ i : Nat, i < a.length ∧ a.getD i 0 = v := by
  obtain ⟨i, hi, e⟩ := List.getElem_of_mem h
  exact ⟨i, hi, by rw [List.getD_eq_getElem?_getD, List.getElem?_eq_getElem hi]; exact e⟩
theorem mem_take_getD {a : List Int} {v : Int} {k : Nat} (h : v ∈ a.take k) : ∃ i : Nat, i < k ∧ i < a.length ∧ a.getD i 0 = v := by
  obtain ⟨i, hi, e⟩ := List.getElem_of_mem h
  have hi' : i < k ∧ i < a.length := by rw [List.length_take] at hi; omega
  refine ⟨i, hi'.1, hi'.2, ?_⟩
  rw [List.getElem_take] at e
  rw [List.getD_eq_getElem?_getD, List.getElem?_eq_getElem hi'.2]; exact e
theorem mem_drop_getD {a : List Int} {v : Int} {k : Nat} (h : v ∈ a.drop k) : ∃ i : Nat, k ≤ i ∧ i < a.length ∧ a.getD i 0 = v := by
  obtain ⟨i, hi, e⟩ := List.getElem_of_mem h
  have hi' : k + i < a.length := by rw [List.length_drop] at hi; omega
  refine ⟨k + i, by omega, hi', ?_⟩
  rw [List.getElem_drop] at e
  rw [List.getD_eq_getElem?_getD, List.getElem?_eq_getElem hi']; exact e

theorem ord_ins {os : List Int} {x lo hi : Int} (ho : Ord os) (hb : BL os x lo hi) (hge : ¬ lo < hi) (hle : lo ≤ hi) (h0 : 0 ≤ lo) (hx0 : 0 ≤ x) (hx1 : x ≤ 40) :
    Ord (os.take lo.toNat ++ x :: os.drop lo.toNat) := by
  have e : lo = hi := by omega
  subst e
  have hl : ∀ v ∈ os.take lo.toNat, v < x := fun v hv => by
    obtain ⟨i, h1, h2, rfl⟩ := mem_take_getD hv
    exact hb.1 i (by omega) h2
  have hr : ∀ v ∈ os.drop lo.toNat, x ≤ v := fun v hv => by
    obtain ⟨i, h1, h2, rfl⟩ := mem_drop_getD hv
    exact hb.2 i (by omega) h2
  refine ⟨List.pairwise_append.mpr ⟨ho.sorted.sublist (List.take_sublist _ _), List.pairwise_cons.mpr ⟨hr, ho.sorted.sublist (List.drop_sublist _ _)⟩, fun a ha b hb' => ?_⟩, fun v hv => ?_, fun v hv => ?_⟩
  · have h1 := hl a ha
    rcases List.mem_cons.mp hb' with rfl | h2
    · omega
    · have := hr b h2; omega
  · rcases List.mem_append.mp hv with h1 | h1
    · exact ho.lo v (List.mem_of_mem_take h1)
    · rcases List.mem_cons.mp h1 with rfl | h2
      · exact hx0
      · exact ho.lo v (List.mem_of_mem_drop h2)
  · rcases List.mem_append.mp hv with h1 | h1
    · exact ho.hi v (List.mem_of_mem_take h1)
    · rcases List.mem_cons.mp h1 with rfl | h2
      · exact hx1
      · exact ho.hi v (List.mem_of_mem_drop h2)
theorem len_ins {os : List Int} {x lo : Int} : (os.take lo.toNat ++ x :: os.drop lo.toNat).length = os.length + 1 := by
  rw [List.length_append, List.length_cons, List.length_take, List.length_drop]; omega
theorem fmod41 (n : Int) : 0 ≤ n.fmod 41 ∧ n.fmod 41 ≤ 40 := by
  have h1 := Int.fmod_nonneg_of_pos n (b := 41) (by omega)
  have h2 := Int.fmod_lt_of_pos n (b := 41) (by omega)
  omega

section
variable {prog : Program} {w : World} {A : Around} {E : Value → Shared → Prop} {s : Shared} {h₀ : Heap} {L D : Addr} {m : Str → Option Value} {news news' : List (Addr × Obj)} {us : List Value} {os : List Int} {n : Nat}
/-- a.insert(lo, x) behind the search for lo -/
theorem ins_step {n0 lo hi : Int} {u t : Tok} {Q : Value → Shared → Prop} (F : Fr h₀ L s.heap m) (N : News h₀ L s.heap news) (hI : IntsAre us os) (ho : Ord os) (hlen : os.length < 63)
    (h0 : 0 ≤ lo) (hle : lo ≤ hi) (h2 : hi ≤ (os.length : Int)) (hb : BL os (n0.fmod 41) lo hi) (hge : ¬ lo < hi)
    (U : Upd D (listOf us.toArray n) (listOf (us.take lo.toNat ++ Value.int (n0.fmod 41) t :: us.drop lo.toNat).toArray (n + 1)) news news')
    (h : ∀ h', IntsAre (us.take lo.toNat ++ Value.int (n0.fmod 41) t :: us.drop lo.toNat) (os.take lo.toNat ++ n0.fmod 41 :: os.drop lo.toNat) → Ord (os.take lo.toNat ++ n0.fmod 41 :: os.drop lo.toNat) →
      (os.take lo.toNat ++ n0.fmod 41 :: os.drop lo.toNat).length = os.length + 1 → Fr h₀ L h' m → News h₀ L h' news' → Q .none { s with heap := h' }) :
    wpAny (model prog w) A (call (.builtin "list.insert") [.ref D, .int lo u, .int (n0.fmod 41) t]) Q E s := by
  have hl := hI.length
  refine kl_insert (its := us.toArray) (l := us.take lo.toNat ++ Value.int (n0.fmod 41) t :: us.drop lo.toNat) F N ?_ ?_ U ?_ fun h' F' N' => ?_
  · have : Builtin.List.listFitsIndex lo = true := by
      unfold Builtin.List.listFitsIndex
      simp only [Bool.and_eq_true, decide_eq_true_eq]
      omega
    exact this
  · show kl_ins us lo _ = _
    unfold kl_ins
    rw [if_neg (by omega)]
    have : min lo.toNat us.length = lo.toNat := by omega
    rw [this]
  · show us.length ≤ sizeLine
    rw [sizeLine_eq]; omega
  · exact h h' ((hI.take _).append (.cons _ _ (hI.drop _))) (ord_ins ho hb hge hle h0 (fmod41 n0).1 (fmod41 n0).2) len_ins F' N'
end

section
variable {prog : Program} {w : World} {A : Around} {E : Value → Shared → Prop} {s : Shared}
theorem adjust_to (b n : Nat) (hb : b ≤ n) : Builtin.Slice.sliceAdjust none (some (b : Int)) 1 (n : Int) = (0, (b : Int)) := by
  unfold Builtin.Slice.sliceAdjust
  have h1 : ¬ ((1 : Int) < 0) := by omega
  have h2 : ¬ ((b : Int) < 0) := by omega
  simp only [h1, h2, if_false]
  congr 1
  omega
theorem places_to (b : Nat) : Builtin.Slice.slicePlaces 0 (b : Int) 1 = b := by
  unfold Builtin.Slice.slicePlaces
  have h1 : (1 : Int) > 0 := by omega
  simp only [h1, if_true, Int.ediv_one]
  split <;> omega
theorem sliceApplied_to {sl : Addr} {b n : Nat} {u : Tok} {Q : Int × Int × Nat → Shared → Prop} (hs : s.heap.IsSliceOf sl .none (.int b u) .none) (hb : b ≤ n) (h : Q (0, 1, b) s) :
    wpAny (model prog w) A (Builtin.Slice.sliceApplied (.ref sl) (pure (n : Int))) Q E s := by
  obtain ⟨os, hos, hcs, hds⟩ := id hs
  unfold Builtin.Slice.sliceApplied Builtin.Slice.sliceFields
  refine wpAny_bind (wpAny_bind (wpAny_field hos hds (x := .none) rfl (wpAny_bind (wpAny_field hos hds (x := .int b u) rfl (wpAny_bind (wpAny_field hos hds (x := .none) rfl (wpAny_pure ?_)))))))
  refine wpAny_bind (slicePart_none ?_)
  show wpAny _ _ (if ((1 : Int) == 0) = true then _ else _) _ _ s
  rw [if_neg (by decide)]
  refine wpAny_bind (slicePart_none (wpAny_bind (slicePart_int (wpAny_bind (wpAny_pure ?_)))))
  show wpAny _ _ (match Builtin.Slice.sliceAdjust none (some (b : Int)) 1 (n : Int) with | (lo, hi) => pure (lo, (1 : Int), Builtin.Slice.slicePlaces lo hi 1)) _ _ s
  rw [adjust_to b n hb]
  show wpAny _ _ (pure ((0 : Int), (1 : Int), Builtin.Slice.slicePlaces 0 (b : Int) 1)) _ _ s
  rw [places_to b]
  exact wpAny_pure h
theorem pick_to (xs : Array Value) (b : Nat) : ((List.range b).filterMap fun (k : Nat) => xs[((0 : Int) + (k : Int) * 1).toNat]?).toArray = (xs.toList.take b).toArray := by
  have e : (fun (k : Nat) => xs[((0 : Int) + (k : Int) * 1).toNat]?) = fun k => xs[0 + k]? := by
    funext k
    have : ((0 : Int) + (k : Int) * 1).toNat = 0 + k := by omega
    rw [this]
  rw [e]
  have := pick_run xs 0 b
  rw [List.filterMap_map] at this
  have e2 : ((fun x => xs[x]?) ∘ fun x => 0 + x) = fun k => xs[0 + k]? := rfl
  rw [e2] at this
  rw [this, List.drop_zero]

theorem getItem_tuple_to {t sl : Addr} {items : Array Value} {b : Nat} {u : Tok} {Q : Value → Shared → Prop} (ht : IsTup s.heap t items) (hs : s.heap.IsSliceOf sl .none (.int b u) .none) (hb : b < items.size)
    (h : Q (.ref s.heap.objs.size) { s with heap := s.heap.push { cls := .type "tuple", data := .seq (items.toList.take b).toArray } })
    (hsz : items.size ≤ sizeLine) : wpAny (model prog w) A (getItem (.ref t) (.ref sl)) Q E s := by
  have htake : sizeOk (.seq (items.toList.take b).toArray) := by
    show (items.toList.take b).toArray.size ≤ sizeLine
    rw [List.size_toArray, List.length_take, Array.length_toList]
    omega
  obtain ⟨os, hos, hcs, hds⟩ := id hs
  have hTs : s.TypeIs (.ref sl) "slice" := ⟨os, hos, hcs⟩
  unfold getItem
  try with_reducible refine wpAny_holding ?_
  first | refine wpAny_bind (wpAny_pure ?_) | skip
  refine wpAny_bind (wpAny_sequenceKey ht.typeIs (by decide) ?_)
  refine wpAny_bind (wpAny_callSpecial?_slot (name := Str.ofString "__getitem__") ht.typeIs slot_tuple_getitem
    (wpAny_call_entry slot_tuple_getitem ht.typeIs entry_tuple_getitem ?_ (args_tuple_getitem _ _)))
  show wpAny _ _ (Builtin.Tuple.tupleItemsOf (.ref t) >>= _) _ _ s
  refine wpAny_bind (tupleItemsOf_ ht ?_)
  refine wpAny_bind (wpAny_typeOf hTs ?_)
  rw [if_pos (by decide)]
  refine wpAny_bind (sliceApplied_to hs (Nat.le_of_lt hb) ?_)
  have hno : ¬ (((0 : Int) == 0 && (1 : Int) == 1 && b == items.size) = true) := by
    have : (b == items.size) = false := by rw [beq_eq_false_iff_ne]; omega
    rw [this]; simp
  show wpAny _ _ (if ((0 : Int) == 0 && (1 : Int) == 1 && b == items.size) = true then _ else _) _ _ s
  rw [if_neg hno, pick_to items b]
  first
    | exact wpAny_bind (m := Builtin.Tuple.tupleExact _) (wpAny_newObj_type (wpAny_pure ⟨_, rfl, wpAny_pure h⟩) htake)
    | exact wpAny_bind (m := Builtin.Tuple.tupleExact _) (wpAny_newObj_type (wpAny_bind (wpAny_pure (wpAny_pure ⟨_, rfl, wpAny_pure h⟩))) htake)
    | exact wpAny_bind (wpAny_bind (m := Builtin.Tuple.tupleExact _) (wpAny_newObj_type (wpAny_pure (wpAny_pure ⟨_, rfl, wpAny_pure h⟩)) htake))
    | exact wpAny_bind (wpAny_bind (m := Builtin.Tuple.tupleExact _) (wpAny_newObj_type (wpAny_pure ⟨_, rfl, wpAny_pure h⟩) htake))
end
section
variable {prog : Program} {w : World} {A : Around} {E : Value → Shared → Prop} {s : Shared} {h₀ : Heap} {L : Addr} {m : Str → Option Value} {news : List (Addr × Obj)}
/-- t[:4] of a tuple of five -/
theorem slice_tuple_four {value slice : Expr} {t : Addr} {a b c d e : Value} {k : Nat} {o : Option Addr} {sl : Array (Option Value)} {u : Tok} {Q : Value → Shared → Prop}
    (F : Fr h₀ L s.heap m) (N : News h₀ L s.heap news) (hm : (t, (Obj.mk (Value.type "tuple") o (Data.seq #[a, b, c, d, e] k) sl)) ∈ news)
    (h : ∀ D h', Fr h₀ L h' m → News h₀ L h' ((D, Obj.mk (Value.type "tuple") none (Data.seq #[a, b, c, d]) #[]) :: news) → (∀ p ∈ news, p.1 < D) → Q (.ref D) { s with heap := h' })
    (hs : subscripted slice false (.ref t) (.ref s.heap.objs.size) = operate [.ref s.heap.objs.size, .ref t] (getItem (.ref t) (.ref s.heap.objs.size)))
    (hg : ∀ r, letTemporaryGo value (.ref t) r = pure ()) :
    wpAny (model prog w) A (subscriptTail value slice (.ref t) (.ref s.heap.objs.size)) Q E { s with heap := s.heap.push { cls := .type "slice", data := .fields #[.none, .int 4 u, .none] } } := by
  have ht : IsTup s.heap t #[a, b, c, d, e] := ⟨_, (N _ hm).1, rfl, k, rfl⟩
  have ht' : IsTup (s.heap.push { cls := .type "slice", data := .fields #[.none, .int 4 u, .none] }) t #[a, b, c, d, e] := ht.keeps fun _ _ e => Heap.get?_push_of_some _ e
  refine subscriptTail_ops (s := { s with heap := s.heap.push { cls := .type "slice", data := .fields #[.none, .int 4 u, .none] } }) ht'.typeIs slot_tuple_getitem.lookup
    (getItem_tuple_to (b := 4) ht' (Heap.IsSliceOf.new ..) (by show 4 < 5; decide) ?_ (by show 5 ≤ sizeLine; rw [sizeLine_eq]; decide)) hs hg
  have N1 := News.push (F.push { cls := .type "slice", data := .fields #[.none, .int 4 u, .none] }) (N.grown fun _ _ e => Heap.get?_push_of_some _ e) { cls := .type "tuple", data := .seq #[a, b, c, d] }
  rw [Heap.size_push] at N1
  show Q (.ref (s.heap.push _).objs.size) _
  rw [Heap.size_push]
  exact h _ _ ((F.push _).push _) N1 fun p hp => Nat.lt_succ_of_lt (Heap.lt_size (N p hp).1)
end

theorem no_sort {os n' : List Int} (ho : Ord os) (hp : n'.Perm os) (hs : n'.Pairwise (· ≤ ·)) (h : ¬ os = n') : False :=
  h (List.Perm.eq_of_pairwise (fun a b _ _ h1 h2 => Int.le_antisymm h1 h2) ho.sorted hs hp.symm)

/-- the squares, told so often as they are many -/
def S1 (k T : Int) (os : List Int) : Int := (os.map fun v => (k * v - T) * (k * v - T)).sum
/-- how far they are, told so often as they are many -/
def S3 (k T : Int) (os : List Int) : Int := (os.map fun v => if k * v - T < 0 then -(k * v - T) else k * v - T).sum
theorem S1_snoc (k T : Int) (os : List Int) (n : Int) : (k * n - T) * (k * n - T) + S1 k T os = S1 k T (os ++ [n]) := by
  simp only [S1, List.map_append, List.map_cons, List.map_nil, List.sum_append, List.sum_cons, List.sum_nil]; omega
theorem S3_snoc (k T : Int) (os : List Int) (n : Int) : (if k * n - T < 0 then -(k * n - T) else k * n - T) + S3 k T os = S3 k T (os ++ [n]) := by
  simp only [S3, List.map_append, List.map_cons, List.map_nil, List.sum_append, List.sum_cons, List.sum_nil]; omega
theorem sum_snoc (os : List Int) (n : Int) : n + os.sum = (os ++ [n]).sum := by
  simp only [List.sum_append, List.sum_cons, List.sum_nil]; omega
theorem len_snoc (os : List Int) (n : Int) : 1 + (os.length : Int) = ((os ++ [n]).length : Int) := by
  simp only [List.length_append, List.length_cons, List.length_nil]; omega
theorem sum_bounds : ∀ {os : List Int}, (∀ v ∈ os, 0 ≤ v) → (∀ v ∈ os, v ≤ 40) → 0 ≤ os.sum ∧ os.sum ≤ 40 * (os.length : Int)
  | [], _, _ => by simp
  | a :: r, h0, h1 => by
    have ih := sum_bounds (os := r) (fun v hv => h0 v (.tail _ hv)) fun v hv => h1 v (.tail _ hv)
    have := h0 a (.head _)
    have := h1 a (.head _)
    simp only [List.sum_cons, List.length_cons]
    omega
theorem off_bounds {os : List Int} {n : Int} (ho : Ord os) (hlen : os.length ≤ 63) (h0 : 0 ≤ n) (h1 : n ≤ 40) : -5000 ≤ (os.length : Int) * n - os.sum ∧ (os.length : Int) * n - os.sum ≤ 5000 := by
  have hb := sum_bounds ho.lo ho.hi
  have h2 : 0 ≤ (os.length : Int) * n := Int.mul_nonneg (by omega) h0
  have h3 : (os.length : Int) * n ≤ 63 * 40 := Int.mul_le_mul (by omega) h1 h0 (by omega)
  omega
abbrev tupO (vs : Array Value) : Obj := Obj.mk (Value.type "tuple") none (Data.seq vs) #[]

def WhJ (prog : Program) (w : World) (k T : Int) (rest : List (Addr × Obj)) (x : Str) (m₀ : Str → Option Value) (pre : List Int) (m : Str → Option Value) (nx : List (Addr × Obj)) : Prop :=
  ∃ (T2 d : Addr) (o : Obj) (t0 t1 t2 t3 : Tok), nx = (T2, tupO #[.int pre.sum t0, .int (S1 k T pre) t1, .int (pre.length : Int) t2, .int (S3 k T pre) t3, .ref d]) :: (d, o) :: rest ∧
    Obj.IsDictOf (strKind prog w) o [] ∧ Obj.IsDictOf (intKind prog w) o [] ∧ m "whole" = some (.ref T2) ∧ (∀ p ∈ rest, p.1 ≠ T2) ∧ (∀ p ∈ rest, p.1 ≠ d) ∧ (d == sysModules) = false ∧ ∀ z, z ≠ x → z ≠ "whole" → z ≠ "off" → m z = m₀ z

section
variable {prog : Program} {w : World} {A : Around} {E : Value → Shared → Prop} {s : Shared} {env : Env} {h₀ : Heap} {x : Str} {body : List Stmt} {Q : Flow → Shared → Prop}

theorem wh_map {m₁ m₀ : Str → Option Value} {T2 : Addr} {v : Value} (hw : m₁ "whole" = some (.ref T2)) (hm : ∀ z, z ≠ x → z ≠ "whole" → z ≠ "off" → m₁ z = m₀ z) :
    (fun z => if z = x then some v else m₁ z) = fun z => if z = x then some v else if z = "whole" then some (.ref T2) else if z = "off" then m₁ z else m₀ z := by
  funext z
  by_cases h : z = x
  · simp [h]
  · simp only [if_neg h]
    by_cases h1 : z = "whole"
    · simp only [if_pos h1]; rw [h1]; exact hw
    · simp only [if_neg h1]
      by_cases h2 : z = "off"
      · simp only [if_pos h2]
      · simp only [if_neg h2]; exact hm z h h1 h2
theorem wh_done {m₁ m₀ : Str → Option Value} {T2 : Addr} (hw : m₁ "whole" = some (.ref T2)) (hm : ∀ z, z ≠ x → z ≠ "whole" → z ≠ "off" → m₁ z = m₀ z) (hx : x ≠ "whole") :
    (fun z => if z = x then m₁ z else if z = "whole" then some (.ref T2) else if z = "off" then m₁ z else m₀ z) = m₁ := by
  funext z
  by_cases h : z = x
  · simp only [if_pos h]
  · simp only [if_neg h]
    by_cases h1 : z = "whole"
    · simp only [if_pos h1]; rw [h1]; exact hw.symm
    · simp only [if_neg h1]
      by_cases h2 : z = "off"
      · simp only [if_pos h2]
      · simp only [if_neg h2]; exact (hm z h h1 h2).symm

theorem off1_of {D : Addr} : ∀ {l : List (Addr × Obj)}, (∀ p ∈ l, p.1 ≠ D) → LCg.Off1 D l
  | [], _ => trivial
  | _ :: _, h => ⟨h _ (.head _), off1_of fun p hp => h p (.tail _ hp)⟩
/-- the loop of _law_whole -/
theorem wh_iter {l T1 T2 d : Addr} {us : List Value} {os : List Int} {nn : Nat} {o O1 : Obj} {t0 t1 t2 t3 : Tok} {m₀ : Str → Option Value} {rest : List (Addr × Obj)}
    (hh : A.handled = none) (F : Fr h₀ env.locals s.heap m₀)
    (N : News h₀ env.locals s.heap ((T1, O1) :: (T2, tupO #[.int 0 t0, .int 0 t1, .int 0 t2, .int 0 t3, .ref d]) :: (d, o) :: rest))
    (hl : (l, listOf us.toArray nn) ∈ rest) (hI : IntsAre us os) (ho : Ord os) (hl63 : os.length ≤ 63) (hs : Obj.IsDictOf (strKind prog w) o []) (hi : Obj.IsDictOf (intKind prog w) o []) (hw : m₀ "whole" = some (.ref T2)) (hx : x ≠ "whole") (e1 : ∀ p ∈ rest, p.1 ≠ T2) (e2 : ∀ p ∈ rest, p.1 ≠ d) (lo : (d == sysModules) = false)
    (turn : ∀ (pre : List Int) (n : Int) (t : Tok) (T2 d : Addr) (o : Obj) (t0 t1 t2 t3 : Tok) (u : Str → Option Value) (h : Heap) (tk : Nat) (own : List (Addr × Obj)), 0 ≤ n → n ≤ 40 → -5000 ≤ (os.length : Int) * n - os.sum → (os.length : Int) * n - os.sum ≤ 5000 → KstMark →
      OwnOff own (T2 :: d :: rest.map (·.1)) → (d == sysModules) = false → Obj.IsDictOf (strKind prog w) o [] → PyProof.V.FlatPairs PyData.str [] [] → Obj.IsDictOf (intKind prog w) o [] → PyProof.V.FlatPairs PyData.int [] [] →
      Fr h₀ env.locals h (fun y => if y = x then some (.int n t) else if y = "whole" then some (.ref T2) else if y = "off" then u y else m₀ y) →
      News h₀ env.locals h ((T2, tupO #[.int pre.sum t0, .int (S1 (os.length : Int) os.sum pre) t1, .int (pre.length : Int) t2, .int (S3 (os.length : Int) os.sum pre) t3, .ref d]) :: (d, o) :: (rest ++ own)) →
      wpAny (model prog w) A (execs body env) (InvPostG h₀ env.locals (WhJ prog w (os.length : Int) os.sum rest x m₀ (pre ++ [n])) own { s with heap := h, toks := tk } Q) E { s with heap := h, toks := tk })
    (done : ∀ (T2 d : Addr) (o : Obj) (t0 t1 t2 t3 : Tok) (u : Str → Option Value) (h : Heap) (tk : Nat), Obj.IsDictOf (strKind prog w) o [] → Obj.IsDictOf (intKind prog w) o [] → LCg.Off1 T2 rest → LCg.Off1 d rest →
      Fr h₀ env.locals h (fun y => if y = x then u y else if y = "whole" then some (.ref T2) else if y = "off" then u y else m₀ y) →
      News h₀ env.locals h ((T2, tupO #[.int os.sum t0, .int (S1 (os.length : Int) os.sum os) t1, .int (os.length : Int) t2, .int (S3 (os.length : Int) os.sum os) t3, .ref d]) :: (d, o) :: rest) → Q .next { s with heap := h, toks := tk }) :
    wpAny (model prog w) A (pyIter (.ref l)) (fun it s₂ => LoopAtV prog w A h₀ env x body Q E it s₂) E s := by
  have hlen : us.length = os.length := hI.length
  refine kdl_iter (news := (T2, tupO #[.int 0 t0, .int 0 t1, .int 0 t2, .int 0 t3, .ref d]) :: (d, o) :: rest) (fun i m nx => WhJ prog w (os.length : Int) os.sum rest x m₀ (os.take i) m nx) hh (.tail _ (.tail _ hl)) F (fun p hp => N p (.tail _ hp))
    ⟨T2, d, o, t0, t1, t2, t3, by simp [S1, S3], hs, hi, hw, e1, e2, lo, fun _ _ _ _ => rfl⟩ ?_ ?_
  · rintro i v m₁ nx h tk own hv hoff _ ⟨T2, d, o, t0, t1, t2, t3, rfl, hs', hi', hw', q1, q2, lo', hm⟩ F₁ N₁
    have hi9 : i < os.length := by rw [← hlen]; exact (List.getElem?_eq_some_iff.mp hv).1
    obtain ⟨t, hx'⟩ := hI.get i (os[i]'hi9) (List.getElem?_eq_getElem hi9)
    have ev : v = .int (os[i]'hi9) t := by rw [hx'] at hv; exact (Option.some.inj hv).symm
    subst ev
    have hs9 : os.take (i + 1) = os.take i ++ [os[i]'hi9] := by rw [List.take_add_one, List.getElem?_eq_getElem hi9] <;> rfl
    rw [wh_map hw' hm] at F₁
    refine wpAny_mono (turn _ _ t T2 d o t0 t1 t2 t3 m₁ h tk own (ho.lo _ (List.getElem_mem hi9)) (ho.hi _ (List.getElem_mem hi9)) (off_bounds ho hl63 (ho.lo _ (List.getElem_mem hi9)) (ho.hi _ (List.getElem_mem hi9))).1 (off_bounds ho hl63 (ho.lo _ (List.getElem_mem hi9)) (ho.hi _ (List.getElem_mem hi9))).2 kstMark (by simpa only [List.map_cons] using hoff) lo' hs' .nil hi' .nil F₁ N₁) (fun f s₂ p => ?_) fun _ _ x => x
    have up : InvEndG h₀ env.locals (WhJ prog w (os.length : Int) os.sum rest x m₀ (os.take i ++ [os[i]'hi9])) own { s with heap := h, toks := tk } s₂ →
        InvEndG h₀ env.locals (fun m' nx => (l, listOf us.toArray nn) ∈ nx ∧ WhJ prog w (os.length : Int) os.sum rest x m₀ (os.take (i + 1)) m' nx) own { s with heap := h, toks := tk } s₂ := by
      rintro ⟨h', tk', m', news', nx', e', F', N', hn', ho', ha, hS⟩
      refine ⟨h', tk', m', news', nx', e', F', N', hn', ho', ha, ?_, by rw [hs9]; exact hS⟩
      obtain ⟨_, _, _, _, _, _, _, rfl, _⟩ := hS
      exact .tail _ (.tail _ hl)
    cases f with
    | ret v => exact p
    | brk => exact p
    | next => exact up p
    | cont => exact up p
  · rintro m₁ nx h tk ⟨T2, d, o, t0, t1, t2, t3, rfl, hs', hi', hw', q1, q2, lo', hm⟩ F₁ N₁
    rw [hlen, List.take_length] at N₁
    exact done T2 d o t0 t1 t2 t3 m₁ h tk hs' hi' (off1_of q1) (off1_of q2) (by rw [wh_done hw' hm hx]; exact F₁) N₁

theorem wh_end {L : Addr} {k T : Int} {rest : List (Addr × Obj)} {m₀ m' : Str → Option Value} {pre : List Int} {n : Int} {T2 d T2' d' : Addr} {o' : Obj} {t0 t1 t2 t3 : Tok} {own news' : List (Addr × Obj)} {s₁ : Shared} {h' : Heap} {tk : Nat}
    (F : Fr h₀ L h' m') (N : News h₀ L h' news') (hoff : OwnOff own (T2 :: d :: rest.map (·.1))) (hs : Obj.IsDictOf (strKind prog w) o' []) (hi : Obj.IsDictOf (intKind prog w) o' []) (hw : m' "whole" = some (.ref T2')) (hm : ∀ z, z ≠ x → z ≠ "whole" → z ≠ "off" → m' z = m₀ z)
    (h1 : (T2', tupO #[.int (n + pre.sum) t0, .int ((k * n - T) * (k * n - T) + S1 k T pre) t1, .int (1 + (pre.length : Int)) t2, .int ((if k * n - T < 0 then -(k * n - T) else k * n - T) + S3 k T pre) t3, .ref d']) ∈ news') (h2 : (d', o') ∈ news')
    (hn : ∀ p ∈ rest, p ∈ news') (ho : ∀ p ∈ own, p ∈ news') (a1 : ∀ p ∈ own, p.1 ≠ T2') (a2 : ∀ p ∈ own, p.1 ≠ d') (a3 : ∀ p ∈ rest, p.1 ≠ T2') (a4 : ∀ p ∈ rest, p.1 ≠ d') (lo : (d' == sysModules) = false) :
    InvEndG h₀ L (WhJ prog w k T rest x m₀ (pre ++ [n])) own s₁ { s₁ with heap := h', toks := tk } := by
  rw [sum_snoc, S1_snoc, S3_snoc, len_snoc] at h1
  refine InvEndG.intro F N ⟨T2', d', o', t0, t1, t2, t3, rfl, hs, hi, hw, a3, a4, lo, hm⟩ ?_ ?_ ho
  · intro p hp b hb
    rcases List.mem_cons.mp hb with rfl | hb
    · exact a1 p hp
    · rcases List.mem_cons.mp hb with rfl | hb
      · exact a2 p hp
      · exact hoff p hp b (.tail _ (.tail _ hb))
  · intro p hp
    rcases List.mem_cons.mp hp with rfl | hp
    · exact h1
    · rcases List.mem_cons.mp hp with rfl | hp
      · exact h2
      · exact hn p hp
end

section
variable {prog : Program} {w : World} {A : Around} {h₀ : Heap} {L : Addr} {m : Str → Option Value} {env : Env} {ct elt : Expr} {x : Str} {scope : Scope} {cl : List (Str × Addr)} {s : Shared} {S : List (Addr × Obj) → Prop} {Fin : List Value → List (Addr × Obj) → Prop} {news : List (Addr × Obj)}
/-- the test's end: what it said, and the element behind it -/
def TestOk (prog : Program) (w : World) (A : Around) (elt : Expr) (env : Env) (p : Bool) (Y : Value → Shared → Prop) (N : Shared → Prop) (E : Value → Shared → Prop) (ok : Bool) (s : Shared) : Prop :=
  ok = p ∧ (p = true → wpAny (model prog w) A (eval elt env) Y E s) ∧ (p = false → N s)
theorem TestOk.intro {E : Value → Shared → Prop} {Y : Value → Shared → Prop} {N : Shared → Prop} {p ok : Bool} (e : p = ok) (h1 : wpAny (model prog w) A (eval elt env) Y E s) (h2 : N s) : TestOk prog w A elt env p Y N E ok s := by
  subst e; exact ⟨rfl, fun _ => h1, fun _ => h2⟩
/-- a comprehension with one test over a list of ints, whose element is an int -/
theorem lcT_list {vs : List Value} {ns : List Int} (p : Int → Bool) (g : Int → Int) (hi : IntsAre vs ns)
    (turn : ∀ k t I oI C oC D m₂ ys h tk (E' : Value → Shared → Prop), k ∈ ns → LCg.NsObj oC m₂ → m₂ x = some (.int k t) → Fr h₀ L h m → News h₀ L h ((I, oI) :: (C, oC) :: (D, LCg.lst ys) :: news) → LCg.Off3 I C D news → ((@Ne Nat I C) ∧ (@Ne Nat I D) ∧ (@Ne Nat C D)) → KPfMark →
      wpAny (model prog w) A (isTrue ct (compEnvC scope cl C env) (eval ct (compEnvC scope cl C env)))
        (TestOk prog w A elt (compEnvC scope cl C env) (p k) (LCg.CompEnd h₀ L m { s with heap := h, toks := tk } I oI C oC D (LCg.lst ys) S (fun y news' => KCfEl news (g k) y news'))
          (LCg.CompEnd h₀ L m { s with heap := h, toks := tk } I oI C oC D (LCg.lst ys) S (fun _ news' => news' = news) Value.none) E') E' { s with heap := h, toks := tk })
    (fin : ∀ ys, IntsAre ys ((ns.filter p).map g) → Fin ys news) : LCt.CompRestT prog w A h₀ L m env ct elt x scope cl s S (fun i v => vs.toArray[i]? = some v) Fin vs.toArray.size 0 [] news := by
  have hn : ns.length = vs.toArray.size := by rw [List.size_toArray]; exact hi.length.symm
  have key : ∀ (j i : Nat) (ys : List Value), i + j = ns.length → IntsAre ys (((ns.take i).filter p).map g) → LCt.CompRestT prog w A h₀ L m env ct elt x scope cl s S (fun i v => vs.toArray[i]? = some v) Fin j i ys news := by
    intro j
    induction j with
    | zero =>
      intro i ys hi' hy
      have e : i = ns.length := by omega
      subst e
      rw [List.take_length] at hy
      exact LCt.CompRestT.zero (fin ys hy)
    | succ j ih =>
      intro i ys hi' hy
      refine LCt.CompRestT.succ ?_
      intro v I oI C oC D m₂ h tk E' hv hC hx F N off ne
      obtain ⟨k, t, e, hk⟩ := IntsAre.at hi i v (by simpa using hv)
      rw [e] at hx
      refine wpAny_mono (turn k t I oI C oC D m₂ ys h tk E' (List.mem_of_getElem? hk) hC hx F N off ne True.intro) (fun ok s₂ hq => ?_) fun _ _ e => e
      obtain ⟨hok, hT, hF⟩ := hq
      subst hok
      have hs : ((ns.take (i + 1)).filter p).map g = ((ns.take i).filter p).map g ++ (if p k = true then [g k] else []) := by
        rw [List.take_add_one, hk]
        simp only [Option.toList, List.filter_append, List.map_append, List.filter_cons, List.filter_nil]
        congr 1
        split <;> rfl
      cases hp : p k with
      | true =>
        simp only [if_true]
        refine wpAny_mono (hT hp) (fun y s₃ hq => ?_) fun _ _ e => e
        obtain ⟨h', tk', nw, e', F', N', off', hS, hn', t', hy'⟩ := hq
        rw [hn'] at N' off' hS
        refine ⟨h', tk', news, e', F', N', off', hS, ?_⟩
        rw [hy']
        refine ih (i + 1) _ (by omega) ?_
        rw [hs, hp]
        simpa using IntsAre.append hy (.cons (g k) t' .nil)
      | false =>
        simp only [Bool.false_eq_true, if_false]
        obtain ⟨h', tk', nw, e', F', N', off', hS, hn'⟩ := hF hp
        rw [hn'] at N' off' hS
        refine ⟨h', tk', news, e', F', N', off', hS, ?_⟩
        refine ih (i + 1) _ (by omega) ?_
        rw [hs, hp]
        simpa using hy
  rw [← hn]
  exact key ns.length 0 [] (by omega) (by simp only [List.take_zero, List.filter_nil, List.map_nil]; exact .nil)
end
theorem size_us {us : List Value} {os : List Int} (hI : IntsAre us os) (h : os.length ≤ 63) : us.toArray.size ≤ sizeLine := by
  have := hI.length
  rw [List.size_toArray, sizeLine_eq]; omega
section
variable {prog : Program} {w : World} {A : Around} {E : Value → Shared → Prop} {s : Shared} {h₀ : Heap} {L D : Addr} {news : List (Addr × Obj)}
theorem len_filter {ys : List Value} {os : List Int} {p : Int → Bool} {g : Int → Int} {Q : Value → Shared → Prop} (N : News h₀ L s.heap news) (hm : (D, LCg.lst ys) ∈ news) (hI : IntsAre ys ((os.filter p).map g)) (hl : os.length ≤ 63)
    (h : Q (.int ((os.filter p).length : Int) (s.toks + 1)) { s with toks := s.toks + 1 + 1 }) : wpAny (model prog w) A (call (.builtin "len") [.ref D]) Q E s := by
  have h1 := hI.length
  rw [List.length_map] at h1
  have h2 := List.length_filter_le p os
  exact kst_len N (us := ys) hm h1 (by omega) h
end

section
variable {prog : Program} {w : World} {A : Around} {E : Value → Shared → Prop} {s : Shared} {env : Env} {h₀ : Heap} {x : Str} {body : List Stmt} {Q : Flow → Shared → Prop}
/-- what a turn of a loop whose name is a cell leaves -/
def CellJ (g : Obj → List (Addr × Obj)) (m₀ : Str → Option Value) (y : Str) (m : Str → Option Value) (nx : List (Addr × Obj)) : Prop :=
  (∃ (oc : Obj) (v : Option Value), nx = g oc ∧ oc.data = .cell v) ∧ ∀ z, z ≠ y → m z = m₀ z
/-- a loop over a list display, whose name is a cell -/
def CellAt (prog : Program) (w : World) (A : Around) (h₀ : Heap) (env : Env) (x : Str) (body : List Stmt) (Q : Flow → Shared → Prop) (E : Value → Shared → Prop) (xv : Value) (s : Shared) : Prop :=
  ∃ (D c : Addr) (its : List Value) (fs : List Int) (nD : Nat) (m₀ : Str → Option Value) (news : List (Addr × Obj)) (g : Obj → List (Addr × Obj)) (oc : Obj) (v₀ : Option Value) (y : Str),
    xv = .ref D ∧ A.handled = none ∧ env.cells.lookup x = some c ∧ Fr h₀ env.locals s.heap m₀ ∧ News h₀ env.locals s.heap news ∧ UpdF c oc news g ∧ oc.data = .cell v₀ ∧ (D, listOf its.toArray nD) ∈ news ∧ IntsAre its fs ∧
    (∀ (f : Int) (t : Tok) (u : Str → Option Value) (oc : Obj) (h : Heap) (tk : Nat) (own : List (Addr × Obj)), f ∈ fs → oc.data = .cell (some (.int f t)) → OwnOff own (news.map (·.1)) → Fr h₀ env.locals h (fun z => if z = y then u z else m₀ z) → News h₀ env.locals h (g oc ++ own) →
      wpAny (model prog w) A (execs body env) (InvPostN h₀ env.locals (CellJ g m₀ y) own (news.map (·.1)) { s with heap := h, toks := tk } Q) E { s with heap := h, toks := tk }) ∧
    (∀ (u : Str → Option Value) (oc : Obj) (v : Option Value) (h : Heap) (tk : Nat), oc.data = .cell v → Fr h₀ env.locals h (fun z => if z = y then u z else m₀ z) → News h₀ env.locals h (g oc) → Q .next { s with heap := h, toks := tk })

theorem off_map {m₁ m₀ : Str → Option Value} {y : Str} (hm : ∀ z, z ≠ y → m₁ z = m₀ z) : m₁ = fun z => if z = y then m₁ z else m₀ z := by
  funext z
  by_cases h : z = y
  · simp only [if_pos h]
  · simp only [if_neg h]; exact hm z h

theorem For_cell {px pos : Pos} {iter : Expr} {m : Str → Option Value} (tF : Fr h₀ env.locals s.heap m) (hk : env.scope.kind = .function) (hx : env.kindOf x = some .cell)
    (h : wpAny (model prog w) A (eval iter env) (CellAt prog w A h₀ env x body Q E) E s)
    (hs : ∀ x, foldedSetIterable iter env x = pure x)
    (hE : PassesOwn (model prog w) A env E) :
    wpAny (model prog w) A (exec (.For (.Name x px) iter body [] pos) env) Q E s := by
  refine wpAny_For (wpAny_mono h (fun xv s₁ h₁ => ?_) fun _ _ e => e) hs
  obtain ⟨D, c, its, fs, nD, m₀, news, g, oc₀, v₀, y, rfl, hh, hc, F, N, U, hd, hD, hI, turn, done⟩ := h₁
  obtain ⟨pre, post, hnews, hg, p1, p2⟩ := U.split
  have hga : ∀ o, (g o).map (·.1) = news.map (·.1) := fun o => by rw [hg, hnews]; simp
  have hDc : D ≠ c := by
    intro e
    have z1 := (N _ hD).1
    have z2 := (N (c, oc₀) (by rw [hnews]; exact List.mem_append_right _ (.head _))).1
    rw [e] at z1
    rw [z1] at z2
    have z3 := congrArg Obj.data (Option.some.inj z2)
    rw [hd] at z3
    cases z3
  have hDg : ∀ o, (D, listOf its.toArray nD) ∈ g o := fun o => by
    rw [hg]
    rw [hnews] at hD
    rcases List.mem_append.mp hD with q | q
    · exact List.mem_append_left _ q
    · rcases List.mem_cons.mp q with q | q
      · exact absurd (congrArg Prod.fst q) hDc
      · exact List.mem_append_right _ (.tail _ q)
  have hol : s₁.heap.get? D = some (listOf its.toArray nD) := (N _ hD).1
  have hls : s₁.heap.IsList D its.toArray := ⟨_, hol, rfl, nD, rfl⟩
  have hne : D ≠ s₁.heap.objs.size := Nat.ne_of_lt (Heap.lt_size hol)
  refine wpAny_pyIter_list hls ?_
  have W := Walks.list (prog := prog) (w := w) hh s₁.heap.objs.size D hne its.toArray
  have hI0 : h₀.get? s₁.heap.objs.size = none := next_is_new F
  have hLI : env.locals ≠ s₁.heap.objs.size := Nat.ne_of_lt F.ns.lt
  have hlen : its.toArray.size = its.length := by simp
  rw [hlen] at W
  have hIoff : ∀ o, ∀ p ∈ g o, p.1 ≠ s₁.heap.objs.size := fun o p hp => by
    have h1 : p.1 ∈ news.map (·.1) := hga o ▸ List.mem_map.mpr ⟨p, hp, rfl⟩
    obtain ⟨q, hq, e⟩ := List.mem_map.mp h1
    exact Nat.ne_of_lt (e ▸ Heap.lt_size (N q hq).1)
  have hg0 : g oc₀ = news := by rw [hg, hnews]
  refine codeAny_forLoop
    (fun k s' => ∃ h' tk m' oc v i, s' = { s₁ with heap := h', toks := tk } ∧ (h'.IsListIter s₁.heap.objs.size D i ∧ h'.IsList D its.toArray) ∧ Fr h₀ env.locals h' m' ∧ News h₀ env.locals h' (g oc) ∧ oc.data = .cell v ∧ (∀ z, z ≠ y → m' z = m₀ z) ∧ i ≤ its.length ∧ k = its.length + 1 - i) ?_ (its.length + 1)
    ⟨_, s₁.toks, m₀, oc₀, v₀, 0, rfl, ⟨⟨_, Heap.get?_push_size _ rfl, rfl, rfl⟩, hls.at fun o e => Heap.get?_push_of_some _ e⟩, F.push _, (fun p hp => ⟨Heap.get?_push_of_some _ (N p (hg0 ▸ hp)).1, (N p (hg0 ▸ hp)).2⟩), hd, fun _ _ => rfl, Nat.zero_le _, rfl⟩
  rintro k s' ⟨h', tk, m', oc, v, i, rfl, hst', F', N', hdc, hm', hi, rfl⟩
  have next : ∀ h₁ : Heap, (∀ b o, b ∉ [s₁.heap.objs.size] → h'.get? b = some o → h₁.get? b = some o) → Fr h₀ env.locals h₁ m' ∧ News h₀ env.locals h₁ (g oc) := fun h₁ hk₁ =>
    ⟨⟨F'.ns.at' fun o e => hk₁ _ o (by simpa using hLI) e, fun b o e => hk₁ b o (fun q => by rw [List.mem_singleton.mp q, hI0] at e; cases e) (F'.keep b o e), F'.above⟩, fun p hp => ⟨hk₁ _ _ (by simpa using hIoff oc p hp) (N' p hp).1, (N' p hp).2⟩⟩
  by_cases hlt : i < its.length
  · refine W.item i _ _ _ hlt hst' fun v' h₁ tk₁ hP hst₁ hk₁ => ?_
    obtain ⟨F₁, N₁⟩ := next h₁ hk₁
    obtain ⟨f, t, ev, hf⟩ := hI.at i v' (by simpa using hP)
    subst ev
    have hcm : (c, oc) ∈ g oc := by rw [hg]; exact List.mem_append_right _ (.head _)
    have hcell := N₁ _ hcm
    refine wpAny_assign_Name (wpAny_storeName_cell hk hx hc ⟨oc, hcell.1, hdc⟩ fun h₂ hv₂ hs₂ => ?_)
    obtain ⟨oc', ho', hd'⟩ := hv₂
    have F₂ : Fr h₀ env.locals h₂ m' := F₁.change hs₂ hcell.2.1 hcell.2.2
    have N₂ : News h₀ env.locals h₂ (g oc') := by
      have z := hg oc
      rw [z] at N₁
      rw [hg]
      exact N₁.setAt p1 p2 hs₂ ho'
    have hcI : c ≠ s₁.heap.objs.size := hIoff oc _ hcm
    obtain ⟨⟨oI, hoI, hoI'⟩, hL₁⟩ := hst₁
    have hoI₂ : h₂.get? s₁.heap.objs.size = some oI := (hs₂.2 _ (Ne.symm hcI)).trans hoI
    have N₃ : News h₀ env.locals h₂ (g oc' ++ [(s₁.heap.objs.size, oI)]) := fun p hp => by
      rcases List.mem_append.mp hp with q | q
      · exact N₂ p q
      · rw [List.mem_singleton.mp q]
        exact ⟨hoI₂, Ne.symm hLI, hI0⟩
    have hoff : OwnOff [(s₁.heap.objs.size, oI)] (news.map (·.1)) := fun p hp b hb e => by
      rw [List.mem_singleton.mp hp] at e
      rw [← hga oc'] at hb
      obtain ⟨q, hq, rfl⟩ := List.mem_map.mp hb
      exact hIoff oc' q hq e.symm
    have F₃ := F₂
    rw [off_map hm'] at F₃
    refine wpAny_passesOwn hE (wpAny_mono (turn f t m' oc' h₂ _ _ (List.mem_of_getElem? hf) hd' hoff F₃ N₃) (fun fl s₃ p => ?_) fun _ _ e => e)
    have fin : InvEndN h₀ env.locals (CellJ g m₀ y) [(s₁.heap.objs.size, oI)] (news.map (·.1)) { s₁ with heap := h₂, toks := tk₁ } s₃ →
        ∃ m, m < its.length + 1 - i ∧ ∃ h' tk m' oc v i, s₃ = { s₁ with heap := h', toks := tk } ∧ (h'.IsListIter s₁.heap.objs.size D i ∧ h'.IsList D its.toArray) ∧ Fr h₀ env.locals h' m' ∧ News h₀ env.locals h' (g oc) ∧ oc.data = .cell v ∧ (∀ z, z ≠ y → m' z = m₀ z) ∧ i ≤ its.length ∧ m = its.length + 1 - i := by
      rintro ⟨h₄, tk₄, m₄, news₄, nx, rfl, F₄, N₄, hn, ho, ha, ⟨oc₄, v₄, rfl, hd₄⟩, hm₄⟩
      refine ⟨its.length + 1 - (i + 1), by omega, h₄, tk₄, m₄, oc₄, v₄, i + 1, rfl, ⟨⟨oI, (N₄ _ (ho _ (.head _))).1, hoI'⟩, ⟨_, (N₄ _ (hn _ (hDg oc₄))).1, rfl, nD, rfl⟩⟩, F₄, fun p hp => N₄ p (hn p hp), hd₄, hm₄, hlt, rfl⟩
    cases fl with
    | ret v => exact p
    | brk => exact p
    | cont => exact fin p
    | next => exact fin p
  · have hin : i = its.length := by omega
    subst hin
    refine W.done _ _ _ hst' fun h₁ tk₁ hk₁ => wpAny_execs_nil ?_
    obtain ⟨F₁, N₁⟩ := next h₁ hk₁
    exact done m' oc v h₁ tk₁ hdc (by rw [← off_map hm']; exact F₁) N₁
theorem cellAt_intro {D c : Addr} {its : List Value} {fs : List Int} {nD : Nat} {m₀ : Str → Option Value} {news : List (Addr × Obj)} {g : Obj → List (Addr × Obj)} {oc : Obj} {v₀ : Option Value} (y : Str) (hh : A.handled = none) (hc : env.cells.lookup x = some c)
    (F : Fr h₀ env.locals s.heap m₀) (N : News h₀ env.locals s.heap news) (U : UpdF c oc news g) (hd : oc.data = .cell v₀) (hD : (D, listOf its.toArray nD) ∈ news) (hI : IntsAre its fs)
    (turn : ∀ (f : Int) (t : Tok) (u : Str → Option Value) (oc : Obj) (h : Heap) (tk : Nat) (own : List (Addr × Obj)), f ∈ fs → oc.data = .cell (some (.int f t)) → OwnOff own (news.map (·.1)) → Fr h₀ env.locals h (fun z => if z = y then u z else m₀ z) → News h₀ env.locals h (g oc ++ own) →
      wpAny (model prog w) A (execs body env) (InvPostN h₀ env.locals (CellJ g m₀ y) own (news.map (·.1)) { s with heap := h, toks := tk } Q) E { s with heap := h, toks := tk })
    (done : ∀ (u : Str → Option Value) (oc : Obj) (v : Option Value) (h : Heap) (tk : Nat), oc.data = .cell v → Fr h₀ env.locals h (fun z => if z = y then u z else m₀ z) → News h₀ env.locals h (g oc) → Q .next { s with heap := h, toks := tk }) :
    CellAt prog w A h₀ env x body Q E (.ref D) s := ⟨D, c, its, fs, nD, m₀, news, g, oc, v₀, y, rfl, hh, hc, F, N, U, hd, hD, hI, turn, done⟩
theorem cell_end {L : Addr} {g : Obj → List (Addr × Obj)} {m₀ m' : Str → Option Value} {y : Str} {oc' : Obj} {v : Option Value} {own news' : List (Addr × Obj)} {adr : List Addr} {s₁ : Shared} {h' : Heap} {tk : Nat}
    (F : Fr h₀ L h' m') (N : News h₀ L h' news') (hsub : ∀ p ∈ g oc', p ∈ news') (hd : oc'.data = .cell v) (ho : ∀ p ∈ own, p ∈ news') (ha : (g oc').map (·.1) = adr) (hm : ∀ z, z ≠ y → m' z = m₀ z) :
    InvEndN h₀ L (CellJ g m₀ y) own adr s₁ { s₁ with heap := h', toks := tk } := InvEndN.intro F N ⟨⟨oc', v, rfl, hd⟩, hm⟩ ha hsub ho
end
theorem fmod40 (n : Int) : 0 ≤ n.fmod 40 ∧ n.fmod 40 ≤ 39 := by
  have h1 := Int.fmod_nonneg_of_pos n (b := 40) (by omega)
  have h2 := Int.fmod_lt_of_pos n (b := 40) (by omega)
  omega
theorem far_bounds {f n : Int} (h : f ∈ [1, 5, 1 + n.fmod 40, 3 * (1 + n.fmod 40)]) : 1 ≤ f ∧ f ≤ 120 := by
  have := fmod40 n
  simp only [List.mem_cons, List.not_mem_nil, or_false] at h
  omega
theorem getD_bounds {os : List Int} (ho : Ord os) (i : Nat) : 0 ≤ os.getD i 0 ∧ os.getD i 0 ≤ 40 := by
  rw [List.getD_eq_getElem?_getD]
  by_cases h : i < os.length
  · rw [List.getElem?_eq_getElem h]
    exact ⟨ho.lo _ (List.getElem_mem h), ho.hi _ (List.getElem_mem h)⟩
  · rw [List.getElem?_eq_none (by omega)]
    simp
theorem about_bounds {f n : Int} {os : List Int} {i : Nat} (ho : Ord os) (h : f ∈ [0, 1 + n.fmod 40, os.getD i 0]) : 0 ≤ f ∧ f ≤ 40 := by
  have := fmod40 n
  have := getD_bounds ho i
  simp only [List.mem_cons, List.not_mem_nil, or_false] at h
  omega

/-- the middle one in order -/
def mid (os : List Int) : Int := os.getD (os.length / 2) 0
theorem mid_bounds {os : List Int} (ho : Ord os) : 0 ≤ mid os ∧ mid os ≤ 40 := getD_bounds ho _
theorem fdiv2 (n : Nat) : ((n : Int).fdiv 2).toNat = n / 2 := by
  rw [Int.fdiv_eq_ediv_of_nonneg _ (by omega)]; omega
theorem about_bounds' {f n : Int} {os : List Int} (ho : Ord os) (h : f ∈ [0, 1 + n.fmod 40, mid os]) : 0 ≤ f ∧ f ≤ 40 := by
  have := fmod40 n
  have := mid_bounds ho
  simp only [List.mem_cons, List.not_mem_nil, or_false] at h
  omega
theorem c3_bnd {os : List Int} {k f : Int} (ho : Ord os) (hl : os.length ≤ 63) (hk : k ∈ os) (h0 : 0 ≤ f) (h1 : f ≤ 40) : -9223372036854775808 ≤ (os.length : Int) * k - (os.length : Int) * f ∧ (os.length : Int) * k - (os.length : Int) * f ≤ 9223372036854775808 := by
  have a0 := ho.lo k hk
  have a1 := ho.hi k hk
  have h2 : 0 ≤ (os.length : Int) * k := Int.mul_nonneg (by omega) a0
  have h3 : (os.length : Int) * k ≤ 63 * 40 := Int.mul_le_mul (by omega) a1 a0 (by omega)
  have h4 : 0 ≤ (os.length : Int) * f := Int.mul_nonneg (by omega) h0
  have h5 : (os.length : Int) * f ≤ 63 * 40 := Int.mul_le_mul (by omega) h1 h0 (by omega)
  omega
theorem c4_bnd {os : List Int} {f : Int} (ho : Ord os) (hl : os.length ≤ 63) (h0 : 0 ≤ f) (h1 : f ≤ 40) : -9223372036854775808 ≤ os.sum - (os.length : Int) * f ∧ os.sum - (os.length : Int) * f ≤ 9223372036854775808 := by
  have hb := sum_bounds ho.lo ho.hi
  have h4 : 0 ≤ (os.length : Int) * f := Int.mul_nonneg (by omega) h0
  have h5 : (os.length : Int) * f ≤ 63 * 40 := Int.mul_le_mul (by omega) h1 h0 (by omega)
  omega
theorem c6_bnd {os : List Int} {a b : Int} (ho : Ord os) (ha : a ∈ os) (hb : b ∈ os) : -9223372036854775808 ≤ a - b ∧ a - b ≤ 9223372036854775808 := by
  have := ho.lo a ha
  have := ho.hi a ha
  have := ho.lo b hb
  have := ho.hi b hb
  omega
section
variable {prog : Program} {w : World} {A : Around} {E : Value → Shared → Prop} {s : Shared} {h₀ : Heap} {L : Addr} {news : List (Addr × Obj)}
/-- order[many // 2] -/
theorem item_mid {value slice : Expr} {l : Addr} {us : List Value} {os : List Int} {nn : Nat} {u : Tok} {Q : Value → Shared → Prop} (N : News h₀ L s.heap news) (hm : (l, listOf us.toArray nn) ∈ news) (hI : IntsAre us os) (ho : Ord os) (hne : decide (os = []) = false) (hl : os.length ≤ 63)
    (h : ∀ t, 0 < os.length → 0 ≤ mid os → mid os ≤ 40 → -5000 ≤ (os.length : Int) * mid os - os.sum → (os.length : Int) * mid os - os.sum ≤ 5000 → Q (.int (mid os) t) s)
    (hs : subscripted slice false (.ref l) (.int ((os.length : Int).fdiv 2) u) = operate [.ref l, .int ((os.length : Int).fdiv 2) u] (getItem (.ref l) (.int ((os.length : Int).fdiv 2) u))) :
    wpAny (model prog w) A (subscriptTail value slice (.ref l) (.int ((os.length : Int).fdiv 2) u)) Q E s := by
  have hpos : 0 < os.length := by
    rcases Nat.eq_zero_or_pos os.length with h0 | h0
    · rw [List.eq_nil_of_length_eq_zero h0] at hne; simp at hne
    · exact h0
  have e : ((os.length : Int).fdiv 2) = ((os.length / 2 : Nat) : Int) := by
    rw [Int.fdiv_eq_ediv_of_nonneg _ (by omega)]; omega
  have b := mid_bounds ho
  have b2 := off_bounds ho hl b.1 b.2
  refine item_anyK (News.isList N hm) hI (by rw [e]; omega) (by rw [e]; omega) (by rw [e]; omega) (fun t => ?_) hs
  rw [fdiv2]
  exact h t hpos b.1 b.2 b2.1 b2.2
/-- a ** 2 -/
theorem pow_two {a : Int} {t u : Tok} {Q : Value → Shared → Prop} (h1 : -9223372036854775808 ≤ a) (h2 : a ≤ 9223372036854775808) (h : Q (.int (a * a) s.toks) { s with toks := s.toks + 1 }) : wpAny (model prog w) A (binaryOp .Pow (.int a t) (.int 2 u)) Q E s := by
  refine pow_int_small (by decide) (by decide) (by omega) ?_
  have e : a ^ (2 : Int).toNat = a * a := by
    show a ^ 2 = a * a
    rw [Int.pow_succ, Int.pow_succ, Int.pow_zero, Int.one_mul]
  rw [e]; exact h
end

section
variable {prog : Program} {w : World} {A : Around} {E : Value → Shared → Prop} {R : Result → Shared → Prop} {s : Shared} {h₀ : Heap} {L : Addr} {m : Str → Option Value} {env : Env}
abbrev comp2 (elt it1 it2 : Expr) (x y : Str) (px py : Pos) (scope : Scope) (pos : Pos) : Expr := .ListComp elt [⟨.Name x px, it1, [], 0⟩, ⟨.Name y py, it2, [], 0⟩] scope pos

theorem turn_in (elt it1 it2 : Expr) (x y : Str) (px py : Pos) (scope : Scope) (pos : Pos) (it acc : Value) (env : Env) :
    compTurn (comp2 elt it1 it2 x y px py scope pos) 1 it acc env = (do
      standAt it2.pos
      match ← pyNext it with
      | none => pure (.done .next)
      | some v =>
        letOwnedTupleGo (.Name y py) it v
        assign (.Name y py) env v
        let mut ok := true
        for c in ([] : List Expr) do
          if ok then ok ← isTrue c env (eval c env)
        if ok then
          (do let _ ← call (.builtin "list.append") [acc, ← eval elt env])
        again (.compLoop (comp2 elt it1 it2 x y px py scope pos) 1 it acc env)) := by rfl
theorem turn_out (elt it1 it2 : Expr) (x y : Str) (px py : Pos) (scope : Scope) (pos : Pos) (it acc : Value) (env : Env) :
    compTurn (comp2 elt it1 it2 x y px py scope pos) 0 it acc env = (do
      standAt it1.pos
      match ← pyNext it with
      | none => pure (.done .next)
      | some v =>
        letOwnedTupleGo (.Name x px) it v
        assign (.Name x px) env v
        let mut ok := true
        for c in ([] : List Expr) do
          if ok then ok ← isTrue c env (eval c env)
        if ok then
          let z ← eval it2 env
          standAt it2.pos
          let z ← foldedSetIterable it2 env z
          let _ ← runOwn (.compStart (comp2 elt it1 it2 x y px py scope pos) 1 (← holding [z] (pyIter z)) acc env) env
        again (.compLoop (comp2 elt it1 it2 x y px py scope pos) 0 it acc env)) := by rfl

theorem loop_in {elt it1 it2 : Expr} {x y : Str} {px py : Pos} {scope : Scope} {pos : Pos} {it acc : Value} (I : Nat → Shared → Prop)
    (turn : ∀ n s, I n s → wpAny (model prog w) A (pyNext it) (fun r s₁ => match r with
      | none => R (.ok .next) s₁
      | some v => wpAny (model prog w) A (assign (.Name y py) env v) (fun _ s₂ => wpAny (model prog w) A (eval elt env) (fun z s₄ =>
          wpAny (model prog w) A (call (.builtin "list.append") [acc, z]) (fun _ s₅ => ∃ m, m < n ∧ I m s₅) (notedBy (model prog w) A env fun e s' => R (.error e) s') s₄) (notedBy (model prog w) A env fun e s' => R (.error e) s') s₂)
          (notedBy (model prog w) A env fun e s' => R (.error e) s') s₁) (notedBy (model prog w) A env fun e s' => R (.error e) s') s)
    (n : Nat) (h : I n s) : codeAny (model prog w) A (.compLoop (comp2 elt it1 it2 x y px py scope pos) 1 it acc env) R s := by
  refine codeAny_loop rfl I (fun n s hI => ?_) n h
  show wpAny _ A ((compTurn (comp2 elt it1 it2 x y px py scope pos) 1 it acc env).onRaise (fun x => do noteFrame x env; theTreesLotGoes x)) _ _ s
  refine wpAny_noted ?_
  rw [turn_in]
  refine wpAny_bind (wpAny_standAt (wpAny_bind (wpAny_mono (turn n s hI) (fun r s₁ h₁ => ?_) fun _ _ h' => h')))
  cases r with
  | none => exact wpAny_pure h₁
  | some v =>
    refine wpAny_bind (wpAny_of_eq (by rfl) ?_)
    refine wpAny_bind (wpAny_mono h₁ (fun _ s₂ h₂ => wpAny_bind (wpAny_mono (wpAny_tests_nil (Q := fun ok s₃ => ok = true ∧ s₃ = s₂) ⟨rfl, rfl⟩) (fun ok s₃ h₃ => ?_) fun _ _ h' => h')) fun _ _ h' => h')
    obtain ⟨rfl, rfl⟩ := h₃
    exact wpAny_bind (wpAny_bind (wpAny_mono h₂ (fun x s₄ h₄ => wpAny_bind (wpAny_mono h₄ (fun _ s₅ h₅ => wpAny_pure (wpAny_pure ⟨rfl, h₅⟩)) fun _ _ h' => h')) fun _ _ h' => h'))

theorem loop_out {elt it1 it2 : Expr} {x y : Str} {px py : Pos} {scope : Scope} {pos : Pos} {it acc : Value} (I : Nat → Shared → Prop) (hs : ∀ z, foldedSetIterable it2 env z = pure z)
    (turn : ∀ n s, I n s → wpAny (model prog w) A (pyNext it) (fun r s₁ => match r with
      | none => R (.ok .next) s₁
      | some v => wpAny (model prog w) A (assign (.Name x px) env v) (fun _ s₂ => wpAny (model prog w) A (eval it2 env) (fun z s₄ =>
          wpAny (model prog w) A (pyIter z) (fun it' s₅ => codeAny (model prog w) A (.compStart (comp2 elt it1 it2 x y px py scope pos) 1 it' acc env)
            (fun r s₆ => match r with | .ok _ => ∃ m, m < n ∧ I m s₆ | .error e => cameBackBy (model prog w) A env (notedBy (model prog w) A env fun e s' => R (.error e) s') e s₆) s₅) (notedBy (model prog w) A env fun e s' => R (.error e) s') s₄) (notedBy (model prog w) A env fun e s' => R (.error e) s') s₂)
          (notedBy (model prog w) A env fun e s' => R (.error e) s') s₁) (notedBy (model prog w) A env fun e s' => R (.error e) s') s)
    (n : Nat) (h : I n s) : codeAny (model prog w) A (.compLoop (comp2 elt it1 it2 x y px py scope pos) 0 it acc env) R s := by
  refine codeAny_loop rfl I (fun n s hI => ?_) n h
  show wpAny _ A ((compTurn (comp2 elt it1 it2 x y px py scope pos) 0 it acc env).onRaise (fun x => do noteFrame x env; theTreesLotGoes x)) _ _ s
  refine wpAny_noted ?_
  rw [turn_out]
  refine wpAny_bind (wpAny_standAt (wpAny_bind (wpAny_mono (turn n s hI) (fun r s₁ h₁ => ?_) fun _ _ h' => h')))
  cases r with
  | none => exact wpAny_pure h₁
  | some v =>
    refine wpAny_bind (wpAny_of_eq (by rfl) ?_)
    refine wpAny_bind (wpAny_mono h₁ (fun _ s₂ h₂ => wpAny_bind (wpAny_mono (wpAny_tests_nil (Q := fun ok s₃ => ok = true ∧ s₃ = s₂) ⟨rfl, rfl⟩) (fun ok s₃ h₃ => ?_) fun _ _ h' => h')) fun _ _ h' => h')
    obtain ⟨rfl, rfl⟩ := h₃
    refine wpAny_bind (wpAny_mono h₂ (fun z s₄ h₄ => wpAny_bind (wpAny_standAt (wpAny_bind (wpAny_of_eq (hs z) (wpAny_bind (wpAny_holding (wpAny_mono h₄ (fun it' s₅ h₅ => ?_) fun _ _ h' => h'))))))) fun _ _ h' => h')
    refine wpAny_bind (wpAny_mono (wpAny_runOwn (Q := fun _ s₆ => ∃ m, m < n ∧ I m s₆) (codeAny_mono h₅ fun r s₆ hr => ?_)) (fun _ s₆ h₆ => wpAny_pure ⟨rfl, h₆⟩) fun _ _ h' => h')
    cases r with
    | ok f => exact hr
    | error e => exact hr

theorem start_in {elt it1 it2 : Expr} {x y : Str} {px py : Pos} {scope : Scope} {pos : Pos} {it acc : Value}
    (h0 : codeAny (model prog w) A (.compLoop (comp2 elt it1 it2 x y px py scope pos) 1 it acc env) R s)
    (h : wpAny (model prog w) A (pyIter it) (fun it' s' => codeAny (model prog w) A (.compLoop (comp2 elt it1 it2 x y px py scope pos) 1 it' acc env) R s')
      (notedBy (model prog w) A env fun x s' => R (.error x) s') s) :
    codeAny (model prog w) A (.compStart (comp2 elt it1 it2 x y px py scope pos) 1 it acc env) R s := by
  refine codeAny_of_tree ?_
  show wpAny _ _ ((compStart (comp2 elt it1 it2 x y px py scope pos) 1 it acc env).onRaise (fun x => do noteFrame x env; standAt theWindowsPlace)) _ _ s
  refine wpAny_notedAt ?_
  unfold compStart
  show wpAny _ _ (ask >>= _) _ _ s
  refine wpAny_bind (wpAny_askSetting (wpAny_ite ?_))
  split
  · first
      | exact wpAny_bind (wpAny_pure (wpAny_pure (And.intro rfl h0)))
      | exact wpAny_pure (And.intro rfl h0)
  · first
      | exact wpAny_bind (wpAny_rule (wpAny_bind (wpAny_standAt (wpAny_bind (wpAny_mono h (fun it' s' h' => wpAny_pure (And.intro rfl h')) fun _ _ x => x)))))
      | (refine wpAny_bind (wpAny_rule ?_); show wpAny _ _ (standAt it2.pos >>= _) _ _ s; exact wpAny_bind (wpAny_standAt (wpAny_bind (wpAny_mono h (fun it' s' h' => wpAny_pure (And.intro rfl h')) fun _ _ x => x))))
end

/-- what a comprehension's block keeps between its steps -/
structure Bx (h₀ : Heap) (L : Addr) (m : Str → Option Value) (C D : Addr) (news : List (Addr × Obj)) (h : Heap) (mc : Str → Option Value) (ys : List Value) : Prop where
  fr : Fr h₀ L h m
  ns : h.Ns C mc
  nw : News h₀ L h ((D, LCg.lst ys) :: news)
section
variable {h₀ h h' : Heap} {L : Addr} {m mc mc' : Str → Option Value} {C D Z : Addr} {news : List (Addr × Obj)} {ys : List Value}
theorem Bx.but (x : Bx h₀ L m C D news h mc ys) (hk : ∀ b o, b ∉ [Z] → h.get? b = some o → h'.get? b = some o) (hZL : Z ≠ L) (hZ0 : h₀.get? Z = none) (hZC : Z ≠ C) (hZD : Z ≠ D) (hZn : ∀ p ∈ news, p.1 ≠ Z) : Bx h₀ L m C D news h' mc ys :=
  ⟨LCg.fr_but x.fr hk (Ne.symm hZL) hZ0, x.ns.at' fun o e => hk C o (by simpa using Ne.symm hZC) e, LCg.news_but x.nw hk fun p hp => by
    rcases List.mem_cons.mp hp with rfl | hp
    · exact Ne.symm hZD
    · exact hZn p hp⟩
theorem Bx.store (x : Bx h₀ L m C D news h mc ys) (hs : Heap.SameBut C h h') (hn : h'.Ns C mc') (hCL : C ≠ L) (hC0 : h₀.get? C = none) (hCD : C ≠ D) (hCn : ∀ p ∈ news, p.1 ≠ C) : Bx h₀ L m C D news h' mc' ys :=
  ⟨x.fr.change hs hCL hC0, hn, fun p hp => ⟨hs.extBut _ _ (by
    rcases List.mem_cons.mp hp with rfl | hp
    · exact Ne.symm hCD
    · exact hCn p hp) (x.nw p hp).1, (x.nw p hp).2⟩⟩
theorem Bx.app (x : Bx h₀ L m C D news h mc ys) {v : Value} (hs : Heap.SameBut D h h') (hD : h'.get? D = some { cls := .type "list", data := .seq (ys.toArray.push v) (ys.length + 1) }) (hDC : D ≠ C) (hDn : ∀ p ∈ news, p.1 ≠ D) : Bx h₀ L m C D news h' mc (ys ++ [v]) := by
  have z := x.nw _ (.head _)
  refine ⟨x.fr.change hs z.2.1 z.2.2, x.ns.sameBut hs (Ne.symm hDC), fun p hp => ?_⟩
  rcases List.mem_cons.mp hp with rfl | hp
  · exact ⟨hD.trans (congrArg some (LCg.lst_snoc ys v)), z.2⟩
  · exact ⟨hs.extBut _ _ (hDn p hp) (x.nw p (.tail _ hp)).1, (x.nw p (.tail _ hp)).2⟩
theorem Bx.grow (x : Bx h₀ L m C D news h mc ys) (hk : ∀ b o, h.get? b = some o → h'.get? b = some o) : Bx h₀ L m C D news h' mc ys :=
  ⟨x.fr.keeps hk, x.ns.at' fun o e => hk _ o e, fun p hp => ⟨hk _ _ (x.nw p hp).1, (x.nw p hp).2⟩⟩
end

/-- an element's end: an int, and all that was there is there -/
def El2 (h₀ : Heap) (L : Addr) (m : Str → Option Value) (s₁ : Shared) (all : List (Addr × Obj)) (r : Int) (y : Value) (s₂ : Shared) : Prop :=
  ∃ (h' : Heap) (tk : Nat) (t : Tok), s₂ = { s₁ with heap := h', toks := tk } ∧ y = .int r t ∧ Fr h₀ L h' m ∧ News h₀ L h' all
theorem El2.intro {h₀ : Heap} {L : Addr} {m : Str → Option Value} {s₁ : Shared} {all all' : List (Addr × Obj)} {r r' : Int} {t : Tok} {h' : Heap} {tk : Nat} (F : Fr h₀ L h' m) (N : News h₀ L h' all') (hs : ∀ p ∈ all, p ∈ all') (e : r = r') :
    El2 h₀ L m s₁ all r (.int r' t) { s₁ with heap := h', toks := tk } := by
  subst e
  exact ⟨h', tk, t, rfl, rfl, F, fun p hp => N p (hs p hp)⟩

/-- the source of a comprehension with two clauses over one list of ints -/
def Comp2Src (prog : Program) (w : World) (A : Around) (h₀ : Heap) (L : Addr) (m : Str → Option Value) (env : Env) (elt it2 : Expr) (x y : Str) (scope : Scope) (cl : List (Str × Addr)) (Q : Value → Shared → Prop) (xv : Value) (s₁ : Shared) : Prop :=
  ∃ (l : Addr) (us : List Value) (ns : List Int) (nn : Nat) (news : List (Addr × Obj)) (g : Int → Int → Int), xv = .ref l ∧ A.handled = none ∧ Fr h₀ L s₁.heap m ∧ News h₀ L s₁.heap news ∧ (l, listOf us.toArray nn) ∈ news ∧ IntsAre us ns ∧ ns.length ≤ 63 ∧
    (∀ (C : Addr) (s' : Shared) (news' : List (Addr × Obj)) (Q' E' : Value → Shared → Prop), News h₀ L s'.heap news' → (∀ p ∈ news, p ∈ news') → Q' (.ref l) s' → wpAny (model prog w) A (eval it2 (compEnvC scope cl C env)) Q' E' s') ∧
    (∀ a ta b tb I oI I2 oI2 C oC D m₂ ys h tk (E' : Value → Shared → Prop), a ∈ ns → b ∈ ns → LCg.NsObj oC m₂ → m₂ x = some (.int a ta) → m₂ y = some (.int b tb) → Fr h₀ L h m →
      News h₀ L h ((I2, oI2) :: (I, oI) :: (C, oC) :: (D, LCg.lst ys) :: news) → KPfMark →
      wpAny (model prog w) A (eval elt (compEnvC scope cl C env)) (El2 h₀ L m { s₁ with heap := h, toks := tk } ((I2, oI2) :: (I, oI) :: (C, oC) :: (D, LCg.lst ys) :: news) (g a b)) E' { s₁ with heap := h, toks := tk }) ∧
    (∀ D ys h tk, IntsAre ys (ns.flatMap fun a => ns.map (g a)) → Fr h₀ L h m → News h₀ L h ((D, LCg.lst ys) :: news) → LCg.Off1 D news → Q (.ref D) { s₁ with heap := h, toks := tk })

theorem flat_len {ns ms : List Int} {g : Int → Int → Int} : (ms.flatMap fun a => ns.map (g a)).length = ms.length * ns.length := by
  induction ms with
  | nil => simp
  | cons a r ih => rw [List.flatMap_cons, List.length_append, ih, List.length_map, List.length_cons, Nat.succ_mul]; omega

section
variable {prog : Program} {w : World} {A : Around} {E : Value → Shared → Prop} {s : Shared} {h₀ : Heap} {L : Addr} {m : Str → Option Value} {env : Env}
set_option maxHeartbeats 3200000 in
theorem ListComp_2 {elt it1 it2 : Expr} {x y : Str} {px py : Pos} {scope : Scope} {cl : List (Str × Addr)} {pos : Pos} {Q : Value → Shared → Prop} (tF₀ : Fr h₀ L s.heap m)
    (hclos : closureFor scope env = pure cl) (hcell : ∀ z ∈ scope.names, z.2 ≠ .cell) (hkind : scope.kind = .function)
    (hnames : ∀ z ∈ scope.names, z.2 = .local → scope.names.lookup z.1 = some .local) (hx : scope.names.lookup x = some .local) (hy : scope.names.lookup y = some .local) (hxy : x ≠ y)
    (h : wpAny (model prog w) A (eval it1 env) (Comp2Src prog w A h₀ L m env elt it2 x y scope cl Q) E s)
    (hs : ∀ z, foldedSetIterable it1 env z = pure z) (hs2 : ∀ C z, foldedSetIterable it2 (compEnvC scope cl C env) z = pure z) :
    wpAny (model prog w) A (eval (comp2 elt it1 it2 x y px py scope pos) env) Q E s := by
  rw [comp2, eval_ListComp]
  refine wpAny_comprehension_free (use := none) rfl hs hclos hkind hnames (wpAny_mono h (fun xv s₁ h₁ => ?_) fun _ _ e => e)
  obtain ⟨l, us, ns, nn, news, g, rfl, hh, F, N, hl, hI, hlen, hit2, turn, fin⟩ := h₁
  have hus : us.length = ns.length := hI.length
  have hol : s₁.heap.get? l = some (listOf us.toArray nn) := (N _ hl).1
  have hls : s₁.heap.IsList l us.toArray := ⟨_, hol, rfl, nn, rfl⟩
  have hlI : l ≠ s₁.heap.objs.size := Nat.ne_of_lt (Heap.lt_size hol)
  refine wpAny_pyIter_list hls ?_
  refine wpAny_newObj_type (wpAny_newFunctionEnv hcell (by intro y hy; simp at hy) (fun h₁ hns₁ hsb₁ => ?_) hkind)
  dsimp only at hns₁ hsb₁ ⊢
  generalize hH1 : s₁.heap.push { cls := .type "list_iterator", data := .fields #[.ref l, .int 0 0] } = H1 at hns₁ hsb₁ ⊢
  generalize hH2 : H1.push { cls := .type "list", dict := none, data := .seq ([] : List Value).toArray } = H2 at hns₁ hsb₁ ⊢
  have e1 : H1.objs.size = s₁.heap.objs.size + 1 := by rw [← hH1, Heap.size_push]
  have e2 : H2.objs.size = s₁.heap.objs.size + 2 := by rw [← hH2, Heap.size_push, e1]
  -- the addresses: the walk's own, the list that is made, the block's names
  have fresh : ∀ a, s₁.heap.objs.size ≤ a → h₀.get? a = none := fun a ha => by
    cases e : h₀.get? a with
    | none => rfl
    | some o' => exact absurd (Heap.lt_size (F.keep a o' e)) (Nat.not_lt.mpr ha)
  have hLlt : L < s₁.heap.objs.size := F.ns.lt
  have nlt : ∀ p ∈ news, p.1 < s₁.heap.objs.size := fun p hp => Heap.lt_size (N p hp).1
  obtain ⟨I, hIe⟩ : ∃ I, I = s₁.heap.objs.size := ⟨_, rfl⟩
  obtain ⟨D, hDe⟩ : ∃ D, D = H1.objs.size := ⟨_, rfl⟩
  obtain ⟨C, hCe⟩ : ∃ C, C = H2.objs.size := ⟨_, rfl⟩
  rw [← hIe] at hlI hLlt nlt fresh e1 e2
  rw [← hIe, ← hDe]
  rw [← hCe] at hns₁ hsb₁ e2
  rw [← hDe] at e1
  have hID : I ≠ D := by rw [e1]; exact Nat.ne_of_lt (Nat.lt_succ_self _)
  have hIC : I ≠ C := by rw [e2]; exact Nat.ne_of_lt (Nat.lt_succ_of_lt (Nat.lt_succ_self _))
  have hDC : D ≠ C := by rw [e1, e2]; exact Nat.ne_of_lt (Nat.lt_succ_self _)
  have hIL : I ≠ L := Ne.symm (Nat.ne_of_lt hLlt)
  have hDL : D ≠ L := by rw [e1]; exact Ne.symm (Nat.ne_of_lt (Nat.lt_succ_of_lt hLlt))
  have hCL : C ≠ L := by rw [e2]; exact Ne.symm (Nat.ne_of_lt (Nat.lt_succ_of_lt (Nat.lt_succ_of_lt hLlt)))
  have hI0 : h₀.get? I = none := fresh I (Nat.le_refl _)
  have hD0 : h₀.get? D = none := fresh D (by rw [e1]; exact Nat.le_succ _)
  have hC0 : h₀.get? C = none := fresh C (by rw [e2]; exact Nat.le_succ_of_le (Nat.le_succ _))
  have nI : ∀ p ∈ news, p.1 ≠ I := fun p hp => Nat.ne_of_lt (nlt p hp)
  have nD : ∀ p ∈ news, p.1 ≠ D := fun p hp => by rw [e1]; exact Nat.ne_of_lt (Nat.lt_succ_of_lt (nlt p hp))
  have nC : ∀ p ∈ news, p.1 ≠ C := fun p hp => by rw [e2]; exact Nat.ne_of_lt (Nat.lt_succ_of_lt (Nat.lt_succ_of_lt (nlt p hp)))
  have old : ∀ b o, s₁.heap.get? b = some o → h₁.get? b = some o := fun b o e =>
    hsb₁.extBut b o (by rw [e2, hIe]; exact Nat.ne_of_lt (Nat.lt_succ_of_lt (Nat.lt_succ_of_lt (Heap.lt_size e)))) (Heap.get?_push_of_some _ (hH2 ▸ Heap.get?_push_of_some _ (hH1 ▸ Heap.get?_push_of_some _ e)))
  have hI1 : H1.get? I = some { cls := .type "list_iterator", data := .fields #[.ref l, .int 0 0] } := by rw [← hH1, hIe]; exact Heap.get?_push_size _ rfl
  have hIter : h₁.IsListIter I l 0 := ⟨_, hsb₁.extBut I _ hIC (Heap.get?_push_of_some _ (hH2 ▸ Heap.get?_push_of_some _ hI1)), rfl, rfl⟩
  have hacc : h₁.get? D = some (LCg.lst []) := hsb₁.extBut D _ hDC (Heap.get?_push_of_some _ (hH2 ▸ (by rw [hDe]; exact Heap.get?_push_size _ rfl)))
  have B₁ : Bx h₀ L m C D news h₁ (fun x => ([] : List (Str × Value)).reverse.lookup x) [] := ⟨F.keeps old, hns₁, fun p hp => by
    rcases List.mem_cons.mp hp with rfl | hp
    · exact ⟨hacc, hDL, hD0⟩
    · exact ⟨old _ _ (N p hp).1, (N p hp).2⟩⟩
  have lsOf : ∀ {h' : Heap} {mc : Str → Option Value} {ys : List Value}, Bx h₀ L m C D news h' mc ys → h'.IsList l us.toArray := fun B => ⟨_, (B.nw _ (.tail _ hl)).1, rfl, nn, rfl⟩
  have hkC : ∀ z, scope.names.lookup z = some .local → (compEnvC scope cl C env).kindOf z = some .local := fun z hz => lookup_relabel_local hz
  have hpC : ((compEnvC scope cl C env).scope.kind == .class || ((compEnvC scope cl C env).scope.kind == .module && (compEnvC scope cl C env).locals != (compEnvC scope cl C env).globals)) = false := by simp [compEnvC, relabel, hkind]
  have hsz : us.toArray.size = ns.length := by rw [List.size_toArray, hus]
  have W := Walks.list (prog := prog) (w := w) hh I l hlI us.toArray
  rw [hsz] at W
  have loop : ∀ s₃ : Shared, s₃ = { s₁ with heap := h₁, toks := s₁.toks + ([] : List (Str × Value)).length } →
      codeAny (model prog w) A (.compLoop (comp2 elt it1 it2 x y px py scope pos) 0 (.ref I) (.ref D) (compEnvC scope cl C env)) (compPost (model prog w) A E none Q (.ref D) C) s₃ := by
    rintro s₃ rfl
    refine loop_out
      (fun k s' => ∃ h' tk mc i ys, s' = { s₁ with heap := h', toks := tk } ∧ i ≤ ns.length ∧ k = ns.length + 1 - i ∧ h'.IsListIter I l i ∧ Bx h₀ L m C D news h' mc ys ∧ IntsAre ys ((ns.take i).flatMap fun a => ns.map (g a))) (hs2 C) ?_ (ns.length + 1)
      ⟨h₁, _, _, 0, [], rfl, Nat.zero_le _, rfl, hIter, B₁, .nil⟩
    rintro k s' ⟨h', tk, mc, i, ys, rfl, hi, rfl, hit', B', hy'⟩
    by_cases hlt : i < ns.length
    · refine W.item i _ _ _ hlt ⟨hit', lsOf B'⟩ fun v h₂ tk₂ hPv hst₂ hk₂ => ?_
      obtain ⟨a, ta, ev, ha⟩ := hI.at i v (by simpa using hPv)
      subst ev
      have B₂ := B'.but hk₂ hIL hI0 hIC hID nI
      refine wpAny_assign_Name (wpAny_storeName_local (hkC x hx) B₂.ns (fun h₃ hn₃ hs₃ => ?_) hpC)
      have B₃ := B₂.store hs₃ hn₃ hCL hC0 (Ne.symm hDC) nC
      have hit₃ : h₃.IsListIter I l (i + 1) := hst₂.1.at fun o e => hs₃.extBut I o hIC e
      obtain ⟨oI, hoI, hoI'⟩ := hit₃
      refine hit2 C _ _ _ _ B₃.nw (fun p hp => .tail _ hp) ?_
      refine wpAny_pyIter_list (lsOf B₃) ?_
      dsimp only
      obtain ⟨I2, hI2e⟩ : ∃ I2, I2 = h₃.objs.size := ⟨_, rfl⟩
      rw [← hI2e]
      generalize hH4 : h₃.push { cls := .type "list_iterator", data := .fields #[.ref l, .int 0 0] } = H4
      have up : ∀ b o, h₃.get? b = some o → H4.get? b = some o := fun b o e => hH4 ▸ Heap.get?_push_of_some _ e
      have B₄ := B₃.grow up
      have hit2₄ : H4.IsListIter I2 l 0 := ⟨_, by rw [← hH4, hI2e]; exact Heap.get?_push_size _ rfl, rfl, rfl⟩
      have hoI₄ := up I oI hoI
      have hI2L : I2 ≠ L := by rw [hI2e]; exact Ne.symm (Nat.ne_of_lt B₃.fr.ns.lt)
      have hI2I : I2 ≠ I := by rw [hI2e]; exact Ne.symm (Nat.ne_of_lt (Heap.lt_size hoI))
      have hI2C : I2 ≠ C := by rw [hI2e]; exact Ne.symm (Nat.ne_of_lt B₃.ns.lt)
      have hI2D : I2 ≠ D := by rw [hI2e]; exact Ne.symm (Nat.ne_of_lt (Heap.lt_size (B₃.nw _ (.head _)).1))
      have hI20 : h₀.get? I2 = none := by rw [hI2e]; exact next_is_new B₃.fr
      have nI2 : ∀ p ∈ news, p.1 ≠ I2 := fun p hp => by rw [hI2e]; exact Nat.ne_of_lt (Heap.lt_size (B₃.nw p (.tail _ hp)).1)
      have hlI2 : l ≠ I2 := nI2 _ hl
      have W2 := Walks.list (prog := prog) (w := w) hh I2 l hlI2 us.toArray
      rw [hsz] at W2
      have inner : ∀ s₅ : Shared, s₅ = { s₁ with heap := H4, toks := tk₂ + 1 } →
          codeAny (model prog w) A (.compLoop (comp2 elt it1 it2 x y px py scope pos) 1 (.ref I2) (.ref D) (compEnvC scope cl C env))
            (fun r s₆ => match r with
              | .ok _ => ∃ m', m' < ns.length + 1 - i ∧ ∃ h' tk mc i ys, s₆ = { s₁ with heap := h', toks := tk } ∧ i ≤ ns.length ∧ m' = ns.length + 1 - i ∧ h'.IsListIter I l i ∧ Bx h₀ L m C D news h' mc ys ∧ IntsAre ys ((ns.take i).flatMap fun a => ns.map (g a))
              | .error e => cameBackBy (model prog w) A (compEnvC scope cl C env) (notedBy (model prog w) A (compEnvC scope cl C env) fun e s' => compPost (model prog w) A E none Q (.ref D) C (.error e) s') e s₆) s₅ := by
        rintro s₅ rfl
        refine loop_in
          (fun k s' => ∃ h' tk mc j zs, s' = { s₁ with heap := h', toks := tk } ∧ j ≤ ns.length ∧ k = ns.length + 1 - j ∧ h'.IsListIter I2 l j ∧ h'.get? I = some oI ∧ mc x = some (.int a ta) ∧ Bx h₀ L m C D news h' mc zs ∧ IntsAre zs (((ns.take i).flatMap fun a => ns.map (g a)) ++ (ns.take j).map (g a))) ?_ (ns.length + 1)
          ⟨H4, _, _, 0, ys, rfl, Nat.zero_le _, rfl, hit2₄, hoI₄, by simp, B₄, by simpa using hy'⟩
        rintro k s' ⟨h₅, tk₅, mc₅, j, zs, rfl, hj, rfl, hit₅, hoI₅, hmx, B₅, hz⟩
        by_cases hjt : j < ns.length
        · refine W2.item j _ _ _ hjt ⟨hit₅, lsOf B₅⟩ fun v h₆ tk₆ hPv hst₆ hk₆ => ?_
          obtain ⟨b, tb, ev, hb⟩ := hI.at j v (by simpa using hPv)
          subst ev
          have B₆ := B₅.but hk₆ hI2L hI20 hI2C hI2D nI2
          have hoI₆ := hk₆ I oI (by simpa using Ne.symm hI2I) hoI₅
          refine wpAny_assign_Name (wpAny_storeName_local (hkC y hy) B₆.ns (fun h₇ hn₇ hs₇ => ?_) hpC)
          have B₇ := B₆.store hs₇ hn₇ hCL hC0 (Ne.symm hDC) nC
          have hoI₇ := hs₇.extBut I oI hIC hoI₆
          have hit₇ : h₇.IsListIter I2 l (j + 1) := hst₆.1.at fun o e => hs₇.extBut I2 o hI2C e
          obtain ⟨oI2, hoI2, hoI2'⟩ := hit₇
          obtain ⟨oC, heC, hoC⟩ := LCg.ns_obj hn₇
          have N₇ : News h₀ L h₇ ((I2, oI2) :: (I, oI) :: (C, oC) :: (D, LCg.lst zs) :: news) := fun p hp => by
            rcases List.mem_cons.mp hp with rfl | hp
            · exact ⟨hoI2, hI2L, hI20⟩
            · rcases List.mem_cons.mp hp with rfl | hp
              · exact ⟨hoI₇, hIL, hI0⟩
              · rcases List.mem_cons.mp hp with rfl | hp
                · exact ⟨heC, hCL, hC0⟩
                · exact B₇.nw p hp
          have hlz : zs.length ≤ 63 * 63 + 63 := by
            rw [hz.length, List.length_append, List.length_map, flat_len, List.length_take, List.length_take]
            have h1 : min i ns.length * ns.length ≤ 63 * 63 := Nat.mul_le_mul (by omega) hlen
            omega
          refine wpAny_mono (turn a ta b tb I oI I2 oI2 C oC D _ zs h₇ _ _ (List.mem_of_getElem? ha) (List.mem_of_getElem? hb) hoC (by simp [hxy, hmx]) (by simp) B₇.fr N₇ True.intro) (fun v s₈ h₈ => ?_) fun _ _ e => e
          obtain ⟨h₈, tk₈, t, rfl, rfl, F₈, N₈⟩ := h₈
          have hD₈ := (N₈ _ (.tail _ (.tail _ (.tail _ (.head _))))).1
          have B₈ : Bx h₀ L m C D news h₈ _ zs := ⟨F₈, hoC.ns (N₈ (C, oC) (.tail _ (.tail _ (.head _)))).1, fun p hp => N₈ p (.tail _ (.tail _ (.tail _ hp)))⟩
          refine append_at (hsz := by show zs.toArray.size ≤ sizeLine; rw [List.size_toArray, sizeLine_eq]; omega) hD₈ fun h₉ hs₉ hD₉ => ?_
          have B₉ := B₈.app hs₉ hD₉ hDC nD
          refine ⟨ns.length + 1 - (j + 1), by omega, h₉, _, _, j + 1, zs ++ [.int (g a b) t], rfl, hjt, rfl, ⟨oI2, hs₉.extBut I2 _ hI2D (N₈ (I2, oI2) (.head _)).1, hoI2'⟩, hs₉.extBut I _ hID (N₈ (I, oI) (.tail _ (.head _))).1, (by simp [hxy, hmx]), B₉, ?_⟩
          rw [List.take_add_one, hb, Option.toList, List.map_append, ← List.append_assoc]
          exact hz.append (.cons _ _ .nil)
        · obtain rfl : j = ns.length := Nat.le_antisymm hj (Nat.not_lt.mp hjt)
          refine W2.done _ _ _ ⟨hit₅, lsOf B₅⟩ fun h₆ tk₆ hk₆ => ?_
          have B₆ := B₅.but hk₆ hI2L hI20 hI2C hI2D nI2
          refine ⟨ns.length + 1 - (i + 1), by omega, h₆, tk₆, mc₅, i + 1, zs, rfl, hlt, rfl, ⟨oI, hk₆ I oI (by simpa using Ne.symm hI2I) hoI₅, hoI'⟩, B₆, ?_⟩
          rw [List.take_length] at hz
          rw [List.take_add_one, ha, Option.toList, List.flatMap_append, List.flatMap_cons, List.flatMap_nil, List.append_nil]
          exact hz
      exact start_in (inner _ rfl) (W2.self 0 _ _ _ ⟨hit2₄, lsOf B₄⟩ (inner _ rfl))
    · obtain rfl : i = ns.length := Nat.le_antisymm hi (Nat.not_lt.mp hlt)
      refine W.done _ _ _ ⟨hit', lsOf B'⟩ fun h₂ tk₂ hk₂ => ?_
      have B₂ := B'.but hk₂ hIL hI0 hIC hID nI
      rw [List.take_length] at hy'
      refine ⟨mc, B₂.ns, fun h'' hs'' => fin D ys h'' tk₂ hy' (B₂.fr.change hs'' hCL hC0) (fun p hp => ⟨hs''.extBut _ _ ?_ (B₂.nw p hp).1, (B₂.nw p hp).2⟩) (off1_of nD)⟩
      rcases List.mem_cons.mp hp with rfl | hp
      · exact hDC
      · exact nC p hp
  subst hCe
  exact codeAny_compStart_list (loop _ rfl) (W.self 0 _ _ _ ⟨hIter, lsOf B₁⟩ (loop _ rfl))
end
section
variable {prog : Program} {w : World} {A : Around} {s₁ : Shared} {h₀ : Heap} {L : Addr} {m : Str → Option Value} {env : Env}
theorem comp2_intro {elt it2 : Expr} {x y : Str} {scope : Scope} {cl : List (Str × Addr)} {Q : Value → Shared → Prop} {l : Addr} {us : List Value} {ns : List Int} {nn : Nat} {news : List (Addr × Obj)} (g : Int → Int → Int)
    (hh : A.handled = none) (F : Fr h₀ L s₁.heap m) (N : News h₀ L s₁.heap news) (hl : (l, listOf us.toArray nn) ∈ news) (hI : IntsAre us ns) (hlen : ns.length ≤ 63)
    (hit2 : ∀ (C : Addr) (s' : Shared) (news' : List (Addr × Obj)) (Q' E' : Value → Shared → Prop), News h₀ L s'.heap news' → (∀ p ∈ news, p ∈ news') → Q' (.ref l) s' → wpAny (model prog w) A (eval it2 (compEnvC scope cl C env)) Q' E' s')
    (turn : ∀ a ta b tb I oI I2 oI2 C oC D m₂ ys h tk (E' : Value → Shared → Prop), a ∈ ns → b ∈ ns → LCg.NsObj oC m₂ → m₂ x = some (.int a ta) → m₂ y = some (.int b tb) → Fr h₀ L h m →
      News h₀ L h ((I2, oI2) :: (I, oI) :: (C, oC) :: (D, LCg.lst ys) :: news) → KPfMark →
      wpAny (model prog w) A (eval elt (compEnvC scope cl C env)) (El2 h₀ L m { s₁ with heap := h, toks := tk } ((I2, oI2) :: (I, oI) :: (C, oC) :: (D, LCg.lst ys) :: news) (g a b)) E' { s₁ with heap := h, toks := tk })
    (fin : ∀ D ys h tk, IntsAre ys (ns.flatMap fun a => ns.map (g a)) → Fr h₀ L h m → News h₀ L h ((D, LCg.lst ys) :: news) → LCg.Off1 D news → Q (.ref D) { s₁ with heap := h, toks := tk }) :
    Comp2Src prog w A h₀ L m env elt it2 x y scope cl Q (.ref l) s₁ := ⟨l, us, ns, nn, news, g, rfl, hh, F, N, hl, hI, hlen, hit2, turn, fin⟩
end

theorem mul_ok_l {a b : Int} (h1 : -9223372036854775808 ≤ a) (h2 : a < 9223372036854775808) : IntMulOk a b := IntMulOk.of_left (intBits_le_64 (by omega) (by omega))
theorem mul_ok_r {a b : Int} (h1 : -9223372036854775808 ≤ b) (h2 : b < 9223372036854775808) : IntMulOk a b := IntMulOk.of_right (intBits_le_64 (by omega) (by omega))
theorem mul_ok_filter {os : List Int} {p : Int → Bool} {b : Int} (h : os.length ≤ 63) : IntMulOk ((os.filter p).length : Int) b := by
  have := List.length_filter_le p os
  exact mul_ok_l (by omega) (by omega)
theorem mul_ok_len {os ms : List Int} {b : Int} (h : os.length = (List.take 10 ms).length) : IntMulOk (os.length : Int) b := by
  rw [List.length_take] at h
  exact mul_ok_l (by omega) (by omega)
theorem mul_ok_lenR {os ms : List Int} {a : Int} (h : os.length = (List.take 10 ms).length) : IntMulOk a (os.length : Int) := by
  rw [List.length_take] at h
  exact mul_ok_r (by omega) (by omega)
theorem mul_ok_bound {a n : Int} : IntMulOk a (1 + n.fmod 40) := by
  have := fmod40 n
  exact mul_ok_r (by omega) (by omega)
theorem mul_ok_off {a b : Int} (h1 : -5000 ≤ a) (h2 : a ≤ 5000) : IntMulOk a b := mul_ok_l (by omega) (by omega)
theorem mul_ok_far {a b : Int} (h1 : 1 ≤ b) (h2 : b ≤ 120) : IntMulOk a b := mul_ok_r (by omega) (by omega)
theorem range_lt {k : Int} {n : Nat} (h : k < 0 + (((n : Int) - 0).toNat : Int)) : k < (n : Int) := by omega
theorem c5_ok {k b : Int} {os ms : List Int} (h0 : 0 ≤ k) (h1 : k < 0 + (((os.length : Int) - 0).toNat : Int)) (h : os.length = (List.take 10 ms).length) : IntMulOk (2 * k + 1 - (os.length : Int)) b := by
  have := range_lt h1
  rw [List.length_take] at h
  exact mul_ok_l (by omega) (by omega)
theorem pw_off {a : Int} (h1 : -5000 ≤ a) (h2 : a ≤ 5000) : -9223372036854775808 ≤ a ∧ a ≤ 9223372036854775808 := by omega
section
variable {prog : Program} {w : World} {A : Around} {E : Value → Shared → Prop} {s : Shared} {h₀ : Heap} {L : Addr} {m : Str → Option Value} {news : List (Addr × Obj)}
theorem mul_two {a b : Int} {t u : Tok} {Q : Value → Shared → Prop} (hm : IntMulOk a b) (h : Q (.int (a * b) s.toks) { s with toks := s.toks + 1 }) : wpAny (model prog w) A (binaryOp .Mult (.int a t) (.int b u)) Q E s := PyProof.Rows.mul_int h hm
theorem pow_two' {a : Int} {t u : Tok} {Q : Value → Shared → Prop} (h1 : -9223372036854775808 ≤ a ∧ a ≤ 9223372036854775808) (h : Q (.int (a * a) s.toks) { s with toks := s.toks + 1 }) : wpAny (model prog w) A (binaryOp .Pow (.int a t) (.int 2 u)) Q E s := pow_two h1.1 h1.2 h
/-- order[k] in a comprehension over range(many) -/
theorem item_k {value slice : Expr} {l : Addr} {us : List Value} {os : List Int} {nn : Nat} {k : Int} {u : Tok} {Q : Value → Shared → Prop} (N : News h₀ L s.heap news) (hm : (l, listOf us.toArray nn) ∈ news) (hI : IntsAre us os) (h0 : 0 ≤ k) (h1 : k < 0 + (((os.length : Int) - 0).toNat : Int)) (hl : os.length ≤ 63)
    (h : ∀ t, Q (.int (os.getD k.toNat 0) t) s)
    (hs : subscripted slice false (.ref l) (.int k u) = operate [.ref l, .int k u] (getItem (.ref l) (.int k u))) :
    wpAny (model prog w) A (subscriptTail value slice (.ref l) (.int k u)) Q E s := by
  have h2 := range_lt h1
  exact item_anyK (News.isList N hm) hI h0 h2 (by omega) h hs
/-- the sum of a list that the walk has just made, and will not see again -/
theorem sum_drop {D : Addr} {ys : List Value} {ns : List Int} {Q : Value → Shared → Prop} (hh : A.handled = none) (F : Fr h₀ L s.heap m) (N : News h₀ L s.heap ((D, LCg.lst ys) :: news)) (hi : IntsAre ys ns)
    (h : ∀ h' tk t', Fr h₀ L h' m → News h₀ L h' news → Q (.int ns.sum t') { s with heap := h', toks := tk }) : wpAny (model prog w) A (call (.builtin "sum") [.ref D]) Q E s :=
  sumK hh F N ⟨_, (N _ (.head _)).1, rfl, _, rfl⟩ hi fun h' tk t' F' N' => h h' tk t' F' fun p hp => N' p (.tail _ hp)
theorem len_drop {D : Addr} {ys : List Value} {os : List Int} {p : Int → Bool} {g : Int → Int} {Q : Value → Shared → Prop} (N : News h₀ L s.heap ((D, LCg.lst ys) :: news)) (hI : IntsAre ys ((os.filter p).map g)) (hl : os.length ≤ 63)
    (h : News h₀ L s.heap news → Q (.int ((os.filter p).length : Int) (s.toks + 1)) { s with toks := s.toks + 1 + 1 }) : wpAny (model prog w) A (call (.builtin "len") [.ref D]) Q E s :=
  len_filter N (.head _) hI hl (h fun p hp => N p (.tail _ hp))
theorem min_drop {D : Addr} {ys : List Value} {ns : List Int} {Q : Value → Shared → Prop} (hh : A.handled = none) (F : Fr h₀ L s.heap m) (N : News h₀ L s.heap ((D, LCg.lst ys) :: news)) (hi : IntsAre ys ns) (hne : 0 < ns.length)
    (h : ∀ h' M (t : Tok) tk, Fr h₀ L h' m → News h₀ L h' news → M ∈ ns → (∀ a, a ∈ ns → M ≤ a) → Q (.int M t) { s with heap := h', toks := tk }) : wpAny (model prog w) A (call (.builtin "min") [.ref D]) Q E s :=
  kso_min F N ⟨_, (N _ (.head _)).1, rfl, _, rfl⟩ hi hne hh fun h' M t tk F' N' a b => h h' M t tk F' (fun p hp => N' p (.tail _ hp)) a b
/-- told: the first four places of the tuple that the loop made -/
theorem slice_told {value slice : Expr} {t e' : Addr} {a b c d e : Value} {k : Nat} {o : Option Addr} {oe : Obj} {sl : Array (Option Value)} {u : Tok} {Q : Value → Shared → Prop}
    (F : Fr h₀ L s.heap m) (N : News h₀ L s.heap ((t, (Obj.mk (Value.type "tuple") o (Data.seq #[a, b, c, d, e] k) sl)) :: (e', oe) :: news))
    (h : ∀ D h', Fr h₀ L h' m → News h₀ L h' ((D, Obj.mk (Value.type "tuple") none (Data.seq #[a, b, c, d]) #[]) :: news) → (∀ p ∈ news, p.1 < D) → Q (.ref D) { s with heap := h' })
    (hs : subscripted slice false (.ref t) (.ref s.heap.objs.size) = operate [.ref s.heap.objs.size, .ref t] (getItem (.ref t) (.ref s.heap.objs.size)))
    (hg : ∀ r, letTemporaryGo value (.ref t) r = pure ()) :
    wpAny (model prog w) A (subscriptTail value slice (.ref t) (.ref s.heap.objs.size)) Q E { s with heap := s.heap.push { cls := .type "slice", data := .fields #[.none, .int 4 u, .none] } } :=
  slice_tuple_four F N (.head _) (fun D h' F' N' l => h D h' F' (fun p hp => N' p (by
    rcases List.mem_cons.mp hp with rfl | hp
    · exact .head _
    · exact .tail _ (.tail _ (.tail _ hp)))) fun p hp => l p (.tail _ (.tail _ hp))) hs hg
end

section
variable {M : Model} {A : Around} {E : Value → Shared → Prop} {s : Shared}
abbrev cell0 : Obj := { cls := .type "cell", data := .cell none }
theorem newEnv_one {scope : Scope} {globals : Addr} {cl : List (Str × Addr)} {qual : Str} {env : Env} {x : Str} {Q : Env → Shared → Prop} (hcf : ∀ n, cellsFrom n scope.names cl = (x, n) :: cl) (hpc : ∀ h, pushCells h scope.names = h.push cell0)
    (h : Q { scope, locals := s.heap.objs.size, globals, cells := (x, s.heap.objs.size + 1) :: cl, qual, func := none, code := env.code, frame := env.frame, builtins := env.builtins }
      { s with heap := (s.heap.push { cls := .type "dict", data := .dict #[] }).push cell0 }) :
    wpAny M A (newFunctionEnv scope globals cl [] qual none .none (some env)) Q E s := by
  simp only [newFunctionEnv, Option.isSome_some, if_true]
  refine wpAny_bind (wpAny_alloc ?_)
  refine wpAny_bind (wpAny_layCells _ (fun name kind cells => by cases hkc : kind == NameKind.cell <;> simp [hkc]) _ _ _ _ ?_)
  rw [hcf, hpc]
  rw [show ({ s with heap := s.heap.push { cls := .type "dict", data := .dict #[] } } : Shared).heap.objs.size = s.heap.objs.size + 1 from Heap.size_push ..]
  exact wpAny_bind (wpAny_pure (wpAny_pure h))
end

/-- the source of a comprehension over a range, whose name is a cell -/
def CompCSrc (prog : Program) (w : World) (A : Around) (h₀ : Heap) (L : Addr) (m : Str → Option Value) (env : Env) (elt : Expr) (x : Str) (scope : Scope) (cl : List (Str × Addr)) (Q : Value → Shared → Prop) (xv : Value) (s₁ : Shared) : Prop :=
  ∃ (r : Addr) (a b : Int) (t u v : Tok) (n : Nat) (news : List (Addr × Obj)) (g : Int → Int), xv = .ref r ∧ A.handled = none ∧ Fr h₀ L s₁.heap m ∧ News h₀ L s₁.heap news ∧ IsRange s₁.heap r a b 1 t u v ∧ Builtin.Range.small a b 1 = true ∧ Builtin.Range.rangeSize a b 1 = ((n : Nat) : Int) ∧ n ≤ 1000 ∧
    (∀ k t I oI C oC c oc D ys h tk (E' : Value → Shared → Prop), a ≤ k → k < a + (n : Int) → oc.data = .cell (some (.int k t)) → Fr h₀ L h m →
      News h₀ L h ((I, oI) :: (C, oC) :: (c, oc) :: (D, LCg.lst ys) :: news) → KPfMark →
      wpAny (model prog w) A (eval elt (compEnvC scope ((x, c) :: cl) C env)) (El2 h₀ L m { s₁ with heap := h, toks := tk } ((I, oI) :: (C, oC) :: (c, oc) :: (D, LCg.lst ys) :: news) (g k)) E' { s₁ with heap := h, toks := tk }) ∧
    (∀ D ys h tk, IntsAre ys ((rangeKs a n).map g) → Fr h₀ L h m → News h₀ L h ((D, LCg.lst ys) :: news) → LCg.Off1 D news → Q (.ref D) { s₁ with heap := h, toks := tk })

section
variable {prog : Program} {w : World} {A : Around} {E : Value → Shared → Prop} {s : Shared} {h₀ : Heap} {L : Addr} {m : Str → Option Value} {env : Env}
set_option maxHeartbeats 3200000 in
theorem ListComp_C {elt iter : Expr} {x : Str} {px : Pos} {scope : Scope} {cl : List (Str × Addr)} {pos : Pos} {Q : Value → Shared → Prop} (tF₀ : Fr h₀ L s.heap m)
    (hclos : closureFor scope env = pure cl) (hcf : ∀ n, cellsFrom n scope.names cl = (x, n) :: cl) (hpc : ∀ h, pushCells h scope.names = h.push cell0) (hkind : scope.kind = .function)
    (hnames : ∀ z ∈ scope.names, z.2 = .local → scope.names.lookup z.1 = some .local) (hx : ∀ c C, (compEnvC scope ((x, c) :: cl) C env).kindOf x = some .cell)
    (h : wpAny (model prog w) A (eval iter env) (CompCSrc prog w A h₀ L m env elt x scope cl Q) E s)
    (hs : ∀ z, foldedSetIterable iter env z = pure z) :
    wpAny (model prog w) A (eval (.ListComp elt [⟨.Name x px, iter, [], 0⟩] scope pos) env) Q E s := by
  rw [eval_ListComp]
  refine wpAny_comprehension_free (use := none) rfl hs hclos hkind hnames (wpAny_mono h (fun xv s₁ h₁ => ?_) fun _ _ e => e)
  obtain ⟨r, a, b, t, u, v, n, news, g, rfl, hh, F, N, hr, hsm, hn, hsz, turn, fin⟩ := h₁
  refine wpAny_pyIter_range hr hsm ?_
  refine wpAny_newObj_type (newEnv_one hcf hpc ?_)
  dsimp only
  generalize hH1 : s₁.heap.push _ = H1
  generalize hH2 : H1.push { cls := .type "list", dict := none, data := .seq ([] : List Value).toArray } = H2
  generalize hH3 : H2.push { cls := .type "dict", data := .dict #[] } = H3
  generalize hH4 : H3.push cell0 = H4
  have e1 : H1.objs.size = s₁.heap.objs.size + 1 := by rw [← hH1, Heap.size_push]
  have e2 : H2.objs.size = s₁.heap.objs.size + 2 := by rw [← hH2, Heap.size_push, e1]
  have e3 : H3.objs.size = s₁.heap.objs.size + 3 := by rw [← hH3, Heap.size_push, e2]
  have fresh : ∀ a, s₁.heap.objs.size ≤ a → h₀.get? a = none := fun a ha => by
    cases e : h₀.get? a with
    | none => rfl
    | some o' => exact absurd (Heap.lt_size (F.keep a o' e)) (Nat.not_lt.mpr ha)
  have hLlt : L < s₁.heap.objs.size := F.ns.lt
  have nlt : ∀ p ∈ news, p.1 < s₁.heap.objs.size := fun p hp => Heap.lt_size (N p hp).1
  obtain ⟨I, hIe⟩ : ∃ I, I = s₁.heap.objs.size := ⟨_, rfl⟩
  obtain ⟨D, hDe⟩ : ∃ D, D = H1.objs.size := ⟨_, rfl⟩
  obtain ⟨C, hCe⟩ : ∃ C, C = H2.objs.size := ⟨_, rfl⟩
  obtain ⟨c, hce⟩ : ∃ c, c = H2.objs.size + 1 := ⟨_, rfl⟩
  rw [← hIe] at hLlt nlt fresh e1 e2 e3
  rw [← hce, ← hCe, ← hIe, ← hDe]
  rw [← hDe] at e1
  have e4 : c = I + 3 := by rw [hce, e2]
  have e5 : C = I + 2 := by rw [hCe, e2]
  have hID : I ≠ D := by rw [e1]; exact Nat.ne_of_lt (Nat.lt_succ_self _)
  have hIC : I ≠ C := by rw [e5]; exact Nat.ne_of_lt (Nat.lt_succ_of_lt (Nat.lt_succ_self _))
  have hIc : I ≠ c := by rw [e4]; exact Nat.ne_of_lt (Nat.lt_succ_of_lt (Nat.lt_succ_of_lt (Nat.lt_succ_self _)))
  have hDC : D ≠ C := by rw [e1, e5]; exact Nat.ne_of_lt (Nat.lt_succ_self _)
  have hDc : D ≠ c := by rw [e1, e4]; exact Nat.ne_of_lt (Nat.lt_succ_of_lt (Nat.lt_succ_self _))
  have hCc : C ≠ c := by rw [e5, e4]; exact Nat.ne_of_lt (Nat.lt_succ_self _)
  have hIL : I ≠ L := Ne.symm (Nat.ne_of_lt hLlt)
  have hDL : D ≠ L := by rw [e1]; exact Ne.symm (Nat.ne_of_lt (Nat.lt_succ_of_lt hLlt))
  have hCL : C ≠ L := by rw [e5]; exact Ne.symm (Nat.ne_of_lt (Nat.lt_succ_of_lt (Nat.lt_succ_of_lt hLlt)))
  have hcL : c ≠ L := by rw [e4]; exact Ne.symm (Nat.ne_of_lt (Nat.lt_succ_of_lt (Nat.lt_succ_of_lt (Nat.lt_succ_of_lt hLlt))))
  have hI0 : h₀.get? I = none := fresh I (Nat.le_refl _)
  have hD0 : h₀.get? D = none := fresh D (by rw [e1]; exact Nat.le_succ _)
  have hC0 : h₀.get? C = none := fresh C (by rw [e5]; exact Nat.le_succ_of_le (Nat.le_succ _))
  have hc0 : h₀.get? c = none := fresh c (by rw [e4]; exact Nat.le_succ_of_le (Nat.le_succ_of_le (Nat.le_succ _)))
  have nI : ∀ p ∈ news, p.1 ≠ I := fun p hp => Nat.ne_of_lt (nlt p hp)
  have nD : ∀ p ∈ news, p.1 ≠ D := fun p hp => by rw [e1]; exact Nat.ne_of_lt (Nat.lt_succ_of_lt (nlt p hp))
  have nC : ∀ p ∈ news, p.1 ≠ C := fun p hp => by rw [e5]; exact Nat.ne_of_lt (Nat.lt_succ_of_lt (Nat.lt_succ_of_lt (nlt p hp)))
  have nc : ∀ p ∈ news, p.1 ≠ c := fun p hp => by rw [e4]; exact Nat.ne_of_lt (Nat.lt_succ_of_lt (Nat.lt_succ_of_lt (Nat.lt_succ_of_lt (nlt p hp))))
  have up4 : ∀ b o, H1.get? b = some o → H4.get? b = some o := fun b o e => hH4 ▸ Heap.get?_push_of_some _ (hH3 ▸ Heap.get?_push_of_some _ (hH2 ▸ Heap.get?_push_of_some _ e))
  have old : ∀ b o, s₁.heap.get? b = some o → H4.get? b = some o := fun b o e => up4 b o (hH1 ▸ Heap.get?_push_of_some _ e)
  have hIter : IsRangeIter H4 I (a + ((0 : Nat) : Int) * 1) ((n : Int) - ((0 : Nat) : Int)) 1 := by
    refine up4 I _ ?_
    rw [← hH1, hIe, hn]
    simpa using Heap.get?_push_size _ rfl
  have hacc : H4.get? D = some (LCg.lst []) := hH4 ▸ Heap.get?_push_of_some _ (hH3 ▸ Heap.get?_push_of_some _ (hH2 ▸ (by rw [hDe]; exact Heap.get?_push_size _ rfl)))
  have hcell : H4.get? c = some cell0 := by
    rw [← hH4, show c = H3.objs.size by rw [hce, e2, e3]]; exact Heap.get?_push_size _ rfl
  have hnsC : H4.Ns C (fun _ => none) := by
    have z := Heap.Ns.new H2 (.type "dict")
    rw [hH3, ← hCe] at z
    exact z.at' fun o e => hH4 ▸ Heap.get?_push_of_some _ e
  have B₁ : Bx h₀ L m C D news H4 (fun _ => none) [] := ⟨F.keeps old, hnsC, fun p hp => by
    rcases List.mem_cons.mp hp with rfl | hp
    · exact ⟨hacc, hDL, hD0⟩
    · exact ⟨old _ _ (N p hp).1, (N p hp).2⟩⟩
  have W := LCg.range_walks (prog := prog) (w := w) (I := I) hh a n
  have loop : ∀ s₃ : Shared, s₃ = { s₁ with heap := H4 } →
      codeAny (model prog w) A (.compLoop (.ListComp elt [⟨.Name x px, iter, [], 0⟩] scope pos) 0 (.ref I) (.ref D) (compEnvC scope ((x, c) :: cl) C env)) (compPost (model prog w) A E none Q (.ref D) C) s₃ := by
    rintro s₃ rfl
    refine codeAny_compLoop_tests
      (fun k s' => ∃ h' tk mc i ys oc v, s' = { s₁ with heap := h', toks := tk } ∧ i ≤ n ∧ k = n + 1 - i ∧ IsRangeIter h' I (a + (i : Int) * 1) ((n : Int) - (i : Int)) 1 ∧ h'.get? c = some oc ∧ oc.data = .cell v ∧ Bx h₀ L m C D news h' mc ys ∧ IntsAre ys (((rangeKs a n).take i).map g)) ?_ (n + 1)
      ⟨H4, s₁.toks, _, 0, [], cell0, none, rfl, Nat.zero_le _, rfl, hIter, hcell, rfl, B₁, .nil⟩
    rintro k s' ⟨h', tk, mc, i, ys, oc, vc, rfl, hi, rfl, hit', hc', hcd, B', hy'⟩
    by_cases hlt : i < n
    · refine W.item i _ _ _ hlt hit' fun v h₂ tk₂ hPv hst₂ hk₂ => ?_
      obtain ⟨tv, rfl⟩ := hPv
      have B₂ := B'.but hk₂ hIL hI0 hIC hID nI
      have hc₂ := hk₂ c oc (by simpa using Ne.symm hIc) hc'
      refine wpAny_assign_Name (wpAny_storeName_cell (c := c) (v₀ := vc) (by simp [compEnvC, relabel, hkind]) (hx c C) (by simp [compEnvC]) ⟨oc, hc₂, hcd⟩ fun h₃ hv₃ hs₃ => ?_)
      obtain ⟨oc', hc₃, hcd₃⟩ := hv₃
      have B₃ : Bx h₀ L m C D news h₃ mc ys := B₂.but (Z := c) (fun b o hb e => hs₃.extBut b o (by simpa using hb) e) hcL hc0 (Ne.symm hCc) (Ne.symm hDc) nc
      refine wpAny_tests_nil ?_
      simp only [if_true]
      have hit₃ : IsRangeIter h₃ I (a + ((i + 1 : Nat) : Int) * 1) ((n : Int) - ((i + 1 : Nat) : Int)) 1 := hs₃.extBut I _ hIc hst₂
      obtain ⟨oI, hoI⟩ : ∃ oI, h₃.get? I = some oI := ⟨_, hit₃⟩
      obtain ⟨oC, heC, hoC⟩ := LCg.ns_obj B₃.ns
      have N₃ : News h₀ L h₃ ((I, oI) :: (C, oC) :: (c, oc') :: (D, LCg.lst ys) :: news) := fun p hp => by
        rcases List.mem_cons.mp hp with rfl | hp
        · exact ⟨hoI, hIL, hI0⟩
        · rcases List.mem_cons.mp hp with rfl | hp
          · exact ⟨heC, hCL, hC0⟩
          · rcases List.mem_cons.mp hp with rfl | hp
            · exact ⟨hc₃, hcL, hc0⟩
            · exact B₃.nw p hp
      have hlz : ys.length ≤ 1000 := by
        rw [hy'.length, List.length_map, List.length_take, rangeKs_length]; omega
      refine wpAny_mono (turn (a + (i : Int)) tv I oI C oC c oc' D ys h₃ _ _ (by omega) (by omega) hcd₃ B₃.fr N₃ True.intro) (fun v s₈ h₈ => ?_) fun _ _ e => e
      obtain ⟨h₈, tk₈, t8, rfl, rfl, F₈, N₈⟩ := h₈
      have hD₈ := (N₈ _ (.tail _ (.tail _ (.tail _ (.head _))))).1
      have B₈ : Bx h₀ L m C D news h₈ mc ys := ⟨F₈, hoC.ns (N₈ (C, oC) (.tail _ (.head _))).1, fun p hp => N₈ p (.tail _ (.tail _ (.tail _ hp)))⟩
      refine append_at (hsz := by show ys.toArray.size ≤ sizeLine; rw [List.size_toArray, sizeLine_eq]; omega) hD₈ fun h₉ hs₉ hD₉ => ?_
      have B₉ := B₈.app hs₉ hD₉ hDC nD
      have hoI₈ : h₈.get? I = some oI := (N₈ (I, oI) (.head _)).1
      refine ⟨n + 1 - (i + 1), by omega, h₉, _, mc, i + 1, ys ++ [.int (g (a + (i : Int))) t8], oc', some (.int (a + (i : Int)) tv), rfl, hlt, rfl, ?_, hs₉.extBut c _ (Ne.symm hDc) (N₈ (c, oc') (.tail _ (.tail _ (.head _)))).1, hcd₃, B₉, ?_⟩
      · have z : h₃.get? I = some _ := hit₃
        show h₉.get? I = some _
        rw [← z, hoI]
        exact hs₉.extBut I _ hID hoI₈
      · have hk' : (rangeKs a n)[i]? = some (a + (i : Int)) := by simp [rangeKs, hlt]
        rw [List.take_add_one, hk', Option.toList, List.map_append]
        exact hy'.append (.cons _ _ .nil)
    · obtain rfl : i = n := Nat.le_antisymm hi (Nat.not_lt.mp hlt)
      refine W.done _ _ _ hit' fun h₂ tk₂ hk₂ => ?_
      have B₂ := B'.but hk₂ hIL hI0 hIC hID nI
      have hl : (rangeKs a i).take i = rangeKs a i := List.take_of_length_le (Nat.le_of_eq (rangeKs_length _ _))
      rw [hl] at hy'
      refine ⟨mc, B₂.ns, fun h'' hs'' => fin D ys h'' tk₂ hy' (B₂.fr.change hs'' hCL hC0) (fun p hp => ⟨hs''.extBut _ _ ?_ (B₂.nw p hp).1, (B₂.nw p hp).2⟩) (off1_of nD)⟩
      rcases List.mem_cons.mp hp with rfl | hp
      · exact hDC
      · exact nC p hp
  exact codeAny_compStart_list (loop _ rfl) (W.self 0 _ _ _ hIter (loop _ rfl))

theorem compC_intro {elt : Expr} {x : Str} {scope : Scope} {cl : List (Str × Addr)} {Q : Value → Shared → Prop} {s₁ : Shared} {r : Addr} {a b : Int} {t u v : Tok} {n : Nat} {news : List (Addr × Obj)} (g : Int → Int)
    (hh : A.handled = none) (F : Fr h₀ L s₁.heap m) (N : News h₀ L s₁.heap news) (hr : IsRange s₁.heap r a b 1 t u v) (hsm : Builtin.Range.small a b 1 = true) (hn : Builtin.Range.rangeSize a b 1 = ((n : Nat) : Int)) (hsz : n ≤ 1000)
    (turn : ∀ k t I oI C oC c oc D ys h tk (E' : Value → Shared → Prop), a ≤ k → k < a + (n : Int) → oc.data = .cell (some (.int k t)) → Fr h₀ L h m →
      News h₀ L h ((I, oI) :: (C, oC) :: (c, oc) :: (D, LCg.lst ys) :: news) → KPfMark →
      wpAny (model prog w) A (eval elt (compEnvC scope ((x, c) :: cl) C env)) (El2 h₀ L m { s₁ with heap := h, toks := tk } ((I, oI) :: (C, oC) :: (c, oc) :: (D, LCg.lst ys) :: news) (g k)) E' { s₁ with heap := h, toks := tk })
    (fin : ∀ D ys h tk, IntsAre ys ((rangeKs a n).map g) → Fr h₀ L h m → News h₀ L h ((D, LCg.lst ys) :: news) → LCg.Off1 D news → Q (.ref D) { s₁ with heap := h, toks := tk }) :
    CompCSrc prog w A h₀ L m env elt x scope cl Q (.ref r) s₁ := ⟨r, a, b, t, u, v, n, news, g, rfl, hh, F, N, hr, hsm, hn, hsz, turn, fin⟩
end

section
variable {prog : Program} {w : World} {A : Around} {E : Value → Shared → Prop} {s : Shared} {h₀ : Heap} {L a : Addr} {m : Str → Option Value} {news : List (Addr × Obj)} {cn : Str} {cs : Scope} {cd : Value}
/-- a loop over the items of a dict that holds nothing -/
theorem items_none {env : Env} {elts : List Expr} {k : Nat} {tp : Pos} {body : List Stmt} {vw d : Addr} {od : Obj} {Q : Flow → Shared → Prop} (hh : A.handled = none) (F : Fr h₀ env.locals s.heap m) (N : News h₀ env.locals s.heap news) (hvw : ∃ ov, s.heap.get? vw = some ov ∧ ov.cls = .type "dict_items" ∧ ov.data = .fields #[.ref d])
    (hm : (d, od) ∈ news) (hI : od.IsDictOf (strKind prog w) []) (lo : (d == sysModules) = false)
    (h : ∀ h' tk, Fr h₀ env.locals h' m → News h₀ env.locals h' news → Q .next { s with heap := h', toks := tk }) :
    wpAny (model prog w) A (pyIter (.ref vw)) (fun it s₂ => TurnsAt prog w A h₀ env (.Tuple elts k tp) body Q E it s₂) E s :=
  kti_items (knd := strKind prog w) (enc := PyData.str) (xs := []) hh F N hvw (TabAt.ofNews N hm lo hI .nil) hm (fun _ _ h => Value.isStrOf_shape h) (by rfl) fun I _ => ItemsRest.zero fun h'' tk F'' N'' => h h'' tk F'' N''
theorem tab_none {d : Addr} {od : Obj} (N : News h₀ L s.heap news) (hm : (d, od) ∈ news) (hI : od.IsDictOf (strKind prog w) []) (lo : (d == sysModules) = false) : TabAt (strKind prog w) PyData.str s.heap d [] := TabAt.ofNews N hm lo hI .nil

/-- told[i] -/
theorem item_told {value slice : Expr} {t : Addr} {v0 v1 v2 v3 : Value} {i : Int} {u : Tok} {n : Nat} {o : Option Addr} {sl : Array (Option Value)} {v : Value} {Q : Value → Shared → Prop} (N : News h₀ L s.heap news) (hm : (t, Obj.mk (Value.type "tuple") o (Data.seq #[v0, v1, v2, v3] n) sl) ∈ news)
    (h0 : 0 ≤ i) (h1 : i < 4) (hx : [v0, v1, v2, v3][i.toNat]? = some v) (h : Q v s)
    (hs : subscripted slice false (.ref t) (.int i u) = operate [.ref t, .int i u] (getItem (.ref t) (.int i u)))
    (hg : ∀ r, letTemporaryGo value (.ref t) r = pure ()) : wpAny (model prog w) A (subscriptTail value slice (.ref t) (.int i u)) Q E s := by
  have ht : IsTup s.heap t [v0, v1, v2, v3].toArray := ⟨_, (N _ hm).1, rfl, n, rfl⟩
  exact item_tupleL (j := i.toNat) ht (by omega) (by omega) (seqIndex_of h0 (by simpa using h1)) hx h hs hg
end

/-! the plain laws: no program in sight -/
theorem sum_ge : ∀ {l : List Int} {b : Int}, (∀ v ∈ l, b ≤ v) → (l.length : Int) * b ≤ l.sum
  | [], b, _ => by simp
  | a :: r, b, h => by
    have ih := sum_ge (l := r) (b := b) fun v hv => h v (.tail _ hv)
    have h1 := h a (.head _)
    have e : ((a :: r).length : Int) * b = (r.length : Int) * b + b := by simp only [List.length_cons]; grind
    rw [e, List.sum_cons]; omega
theorem bl_parts {os : List Int} {x lo hi : Int} (hb : BL os x lo hi) (hge : ¬ lo < hi) (hle : lo ≤ hi) (h0 : 0 ≤ lo) : (∀ v ∈ os.take lo.toNat, v < x) ∧ (∀ v ∈ os.drop lo.toNat, x ≤ v) := by
  have e : lo = hi := by omega
  subst e
  refine ⟨fun v hv => ?_, fun v hv => ?_⟩
  · obtain ⟨i, h1, h2, rfl⟩ := mem_take_getD hv
    exact hb.1 i (by omega) h2
  · obtain ⟨i, h1, h2, rfl⟩ := mem_drop_getD hv
    exact hb.2 i (by omega) h2
/-- Markov -/
theorem no_markov {os : List Int} {b lo hi : Int} (ho : Ord os) (hb : BL os b lo hi) (hge : ¬ lo < hi) (hle : lo ≤ hi) (h0 : 0 ≤ lo) (h2 : hi ≤ (os.length : Int)) (h : os.sum < ((os.length : Int) - lo) * b) : False := by
  obtain ⟨_, p2⟩ := bl_parts hb hge hle h0
  have s1 := sum_ge p2
  have s2 := (sum_bounds (os := os.take lo.toNat) (fun v hv => ho.lo v (List.mem_of_mem_take hv)) (fun v hv => ho.hi v (List.mem_of_mem_take hv))).1
  have s3 : os.sum = (os.take lo.toNat).sum + (os.drop lo.toNat).sum := by rw [← List.sum_append, List.take_append_drop]
  have e : ((os.drop lo.toNat).length : Int) = (os.length : Int) - lo := by rw [List.length_drop]; omega
  rw [e] at s1
  omega
/-- what bisect_left tells is how many are no less -/
theorem no_above {os : List Int} {b lo hi : Int} (hb : BL os b lo hi) (hge : ¬ lo < hi) (hle : lo ≤ hi) (h0 : 0 ≤ lo) (h2 : hi ≤ (os.length : Int)) (h : (os.length : Int) - lo ≠ ((os.filter fun k => decide (b ≤ k)).length : Int)) : False := by
  obtain ⟨p1, p2⟩ := bl_parts hb hge hle h0
  apply h
  have e : os.filter (fun k => decide (b ≤ k)) = os.drop lo.toNat := by
    have e1 : (os.take lo.toNat).filter (fun k => decide (b ≤ k)) = [] := List.filter_eq_nil_iff.mpr fun v hv => by have := p1 v hv; simpa using this
    have e2 : (os.drop lo.toNat).filter (fun k => decide (b ≤ k)) = os.drop lo.toNat := List.filter_eq_self.mpr fun v hv => by have := p2 v hv; simpa using this
    calc os.filter (fun k => decide (b ≤ k)) = (os.take lo.toNat ++ os.drop lo.toNat).filter (fun k => decide (b ≤ k)) := by rw [List.take_append_drop]
      _ = os.drop lo.toNat := by rw [List.filter_append, e1, e2, List.nil_append]
  rw [e, List.length_drop]; omega
theorem sq_ge {x f : Int} (hf : 0 ≤ f) (h : f ≤ if x < 0 then -x else x) : f * f ≤ x * x := by
  split at h
  · have := Int.mul_le_mul h h hf (by omega)
    rwa [Int.neg_mul_neg] at this
  · exact Int.mul_le_mul h h hf (by omega)
theorem sq_nonneg (x : Int) : 0 ≤ x * x := by
  have := sq_ge (x := x) (f := 0) (by omega) (by split <;> omega)
  omega
theorem cheb2 (g : Int → Int) {f : Int} (hf : 0 ≤ f) : ∀ os : List Int, ((os.filter fun v => decide (f ≤ if g v < 0 then -(g v) else g v)).length : Int) * f * f ≤ (os.map fun v => g v * g v).sum
  | [] => by simp
  | a :: r => by
    have ih := cheb2 g hf r
    have h2 := sq_nonneg (g a)
    rw [List.filter_cons, List.map_cons, List.sum_cons]
    by_cases h : (decide (f ≤ if g a < 0 then -(g a) else g a)) = true
    · rw [if_pos h]
      have h1 := sq_ge hf (of_decide_eq_true h)
      rw [List.length_cons]
      have e : (((r.filter fun v => decide (f ≤ if g v < 0 then -(g v) else g v)).length + 1 : Nat) : Int) * f * f = ((r.filter fun v => decide (f ≤ if g v < 0 then -(g v) else g v)).length : Int) * f * f + f * f := by grind
      omega
    · rw [if_neg h]; omega
theorem cheb1 (g : Int → Int) {f : Int} : ∀ os : List Int, ((os.filter fun v => decide (f ≤ if g v < 0 then -(g v) else g v)).length : Int) * f ≤ (os.map fun v => if g v < 0 then -(g v) else g v).sum
  | [] => by simp
  | a :: r => by
    have ih := cheb1 g (f := f) r
    have h2 : 0 ≤ (if g a < 0 then -(g a) else g a) := by split <;> omega
    rw [List.filter_cons, List.map_cons, List.sum_cons]
    by_cases h : (decide (f ≤ if g a < 0 then -(g a) else g a)) = true
    · rw [if_pos h]
      have h1 := of_decide_eq_true h
      rw [List.length_cons]
      have e : (((r.filter fun v => decide (f ≤ if g v < 0 then -(g v) else g v)).length + 1 : Nat) : Int) * f = ((r.filter fun v => decide (f ≤ if g v < 0 then -(g v) else g v)).length : Int) * f + f := by grind
      omega
    · rw [if_neg h]; omega
/-- Chebyshev -/
theorem no_cheb2 {os : List Int} {k T f : Int} (hf : 1 ≤ f) (h : S1 k T os < ((os.filter fun v => decide (f ≤ if k * v - T < 0 then -(k * v - T) else k * v - T)).length : Int) * f * f) : False := by
  have := cheb2 (fun v => k * v - T) (f := f) (by omega) os
  unfold S1 at h
  omega
theorem no_cheb1 {os : List Int} {k T f : Int} (h : S3 k T os < ((os.filter fun v => decide (f ≤ if k * v - T < 0 then -(k * v - T) else k * v - T)).length : Int) * f) : False := by
  have := cheb1 (fun v => k * v - T) (f := f) os
  unfold S3 at h
  omega

/-- how far all are from a, together -/
def far (l : List Int) (a : Int) : Int := (l.map fun v => if v - a < 0 then -(v - a) else v - a).sum
theorem far_append (l r : List Int) (a : Int) : far (l ++ r) a = far l a + far r a := by unfold far; rw [List.map_append, List.sum_append]
theorem far_cons (v : Int) (r : List Int) (a : Int) : far (v :: r) a = (if v - a < 0 then -(v - a) else v - a) + far r a := by unfold far; rw [List.map_cons, List.sum_cons]
theorem far_shift {m a d : Int} (hd : ∀ v : Int, True → (if v - m < 0 then -(v - m) else v - m) - d ≤ (if v - a < 0 then -(v - a) else v - a)) : ∀ l : List Int, far l m - (l.length : Int) * d ≤ far l a
  | [] => by simp [far]
  | v :: r => by
    have ih := far_shift hd r
    have h1 := hd v trivial
    rw [far_cons, far_cons]
    have e : ((v :: r).length : Int) * d = (r.length : Int) * d + d := by simp only [List.length_cons]; grind
    rw [e]; omega
theorem far_away {m a d : Int} : ∀ l : List Int, (∀ v ∈ l, (if v - m < 0 then -(v - m) else v - m) + d ≤ (if v - a < 0 then -(v - a) else v - a)) → far l m + (l.length : Int) * d ≤ far l a
  | [], _ => by simp [far]
  | v :: r, h => by
    have ih := far_away r fun u hu => h u (.tail _ hu)
    have h1 := h v (.head _)
    rw [far_cons, far_cons]
    have e : ((v :: r).length : Int) * d = (r.length : Int) * d + d := by simp only [List.length_cons]; grind
    rw [e]; omega
/-- all together are nearest to the one in the middle -/
theorem med_split {L R : List Int} {m : Int} (a : Int) (hL : ∀ v ∈ L, v ≤ m) (hR : ∀ v ∈ R, m ≤ v) (h1 : L.length ≤ R.length + 1) (h2 : R.length ≤ L.length + 1) : far (L ++ m :: R) m ≤ far (L ++ m :: R) a := by
  rw [far_append, far_append, far_cons, far_cons]
  by_cases hma : a ≤ m
  · have e1 := far_shift (m := m) (a := a) (d := m - a) (fun v _ => by split <;> split <;> omega) L
    have e2 := far_away (m := m) (a := a) (d := m - a) R fun v hv => by have := hR v hv; split <;> split <;> omega
    have hp : (L.length : Int) * (m - a) ≤ ((R.length : Int) + 1) * (m - a) := Int.mul_le_mul_of_nonneg_right (by omega) (by omega)
    have hq : ((R.length : Int) + 1) * (m - a) = (R.length : Int) * (m - a) + (m - a) := by grind
    split <;> split <;> omega
  · have e1 := far_away (m := m) (a := a) (d := a - m) L fun v hv => by have := hL v hv; split <;> split <;> omega
    have e2 := far_shift (m := m) (a := a) (d := a - m) (fun v _ => by split <;> split <;> omega) R
    have hp : (R.length : Int) * (a - m) ≤ ((L.length : Int) + 1) * (a - m) := Int.mul_le_mul_of_nonneg_right (by omega) (by omega)
    have hq : ((L.length : Int) + 1) * (a - m) = (L.length : Int) * (a - m) + (a - m) := by grind
    split <;> split <;> omega
theorem mid_split {os : List Int} (ho : Ord os) (hp : 0 < os.length) : ∃ L R : List Int, os = L ++ mid os :: R ∧ (∀ v ∈ L, v ≤ mid os) ∧ (∀ v ∈ R, mid os ≤ v) ∧ L.length ≤ R.length + 1 ∧ R.length ≤ L.length + 1 := by
  have hi : os.length / 2 < os.length := by omega
  have e : os = os.take (os.length / 2) ++ mid os :: os.drop (os.length / 2 + 1) := by
    have h9 := List.take_append_drop (os.length / 2) os
    rw [List.drop_eq_getElem_cons hi] at h9
    have hm : mid os = os[os.length / 2] := by
      unfold mid
      rw [List.getD_eq_getElem?_getD, List.getElem?_eq_getElem hi]; rfl
    rw [hm]; exact h9.symm
  refine ⟨os.take (os.length / 2), os.drop (os.length / 2 + 1), e, fun v hv => ?_, fun v hv => ?_, ?_, ?_⟩
  · obtain ⟨i, h1, h2, rfl⟩ := mem_take_getD hv
    exact getD_mono ho.sorted (by omega) hi
  · obtain ⟨i, h1, h2, rfl⟩ := mem_drop_getD hv
    exact getD_mono ho.sorted (by omega) h2
  · rw [List.length_take, List.length_drop]; omega
  · rw [List.length_take, List.length_drop]; omega
theorem far_mid {os : List Int} (ho : Ord os) (hp : 0 < os.length) (a : Int) : far os (mid os) ≤ far os a := by
  obtain ⟨L, R, e, hL, hR, h1, h2⟩ := mid_split ho hp
  have := med_split a hL hR h1 h2
  rwa [← e] at this
theorem far_scaled {os : List Int} (ho : Ord os) (hp : 0 < os.length) {k : Int} (hk : 0 ≤ k) (a : Int) : far (os.map (k * ·)) (k * mid os) ≤ far (os.map (k * ·)) a := by
  obtain ⟨L, R, e, hL, hR, h1, h2⟩ := mid_split ho hp
  have := med_split (L := L.map (k * ·)) (R := R.map (k * ·)) (m := k * mid os) a (fun v hv => by
    obtain ⟨u, hu, rfl⟩ := List.mem_map.mp hv
    exact Int.mul_le_mul_of_nonneg_left (hL u hu) hk) (fun v hv => by
    obtain ⟨u, hu, rfl⟩ := List.mem_map.mp hv
    exact Int.mul_le_mul_of_nonneg_left (hR u hu) hk) (by simpa using h1) (by simpa using h2)
  have e2 : os.map (k * ·) = L.map (k * ·) ++ k * mid os :: R.map (k * ·) := by
    conv => lhs; rw [e]
    rw [List.map_append, List.map_cons]
  rw [e2]; exact this
/-- one half is no less, and one half no more -/
theorem no_half1 {os : List Int} {lo hi : Int} (hb : BL os (mid os) lo hi) (hge : ¬ lo < hi) (hle : lo ≤ hi) (h0 : 0 ≤ lo) (hp : 0 < os.length) (h : 2 * ((os.length : Int) - lo) < (os.length : Int)) : False := by
  have := hb.1 (os.length / 2) (by omega) (by omega)
  unfold mid at this
  omega
theorem no_half2 {os : List Int} {lo hi : Int} (hb : BR os (mid os) lo hi) (hge : ¬ lo < hi) (hle : lo ≤ hi) (h0 : 0 ≤ lo) (hp : 0 < os.length) (h : 2 * lo < (os.length : Int)) : False := by
  have := hb.2 (os.length / 2) (by omega) (by omega)
  unfold mid at this
  omega

/-- the squares, together -/
def SQ (os : List Int) : Int := (os.map fun v => v * v).sum
theorem SQ_cons (a : Int) (r : List Int) : SQ (a :: r) = a * a + SQ r := by unfold SQ; rw [List.map_cons, List.sum_cons]
theorem sq_expand (k c : Int) : ∀ os : List Int, (os.map fun v => (k * v - c) * (k * v - c)).sum = k * k * SQ os - 2 * k * c * os.sum + c * c * (os.length : Int)
  | [] => by simp [SQ]
  | a :: r => by
    have ih := sq_expand k c r
    rw [List.map_cons, List.sum_cons, ih, SQ_cons, List.sum_cons, List.length_cons]
    grind
theorem no_about {os : List Int} {f : Int} (h : (os.map fun k => ((os.length : Int) * k - (os.length : Int) * f) * ((os.length : Int) * k - (os.length : Int) * f)).sum ≠ S1 (os.length : Int) os.sum os + (os.length : Int) * ((os.sum - (os.length : Int) * f) * (os.sum - (os.length : Int) * f))) : False := by
  apply h
  have e1 := sq_expand (os.length : Int) ((os.length : Int) * f) os
  have e2 := sq_expand (os.length : Int) os.sum os
  unfold S1
  rw [e1, e2]
  grind
theorem sq_to (a : Int) : ∀ l : List Int, (l.map fun b => (a - b) * (a - b)).sum = a * a * (l.length : Int) - 2 * a * l.sum + SQ l
  | [] => by simp [SQ]
  | b :: r => by
    have ih := sq_to a r
    rw [List.map_cons, List.sum_cons, ih, SQ_cons, List.sum_cons, List.length_cons]
    grind
theorem sq_pairs (os : List Int) : ∀ l : List Int, (l.flatMap fun a => os.map fun b => (a - b) * (a - b)).sum = SQ l * (os.length : Int) - 2 * l.sum * os.sum + (l.length : Int) * SQ os
  | [] => by simp [SQ]
  | a :: r => by
    have ih := sq_pairs os r
    rw [List.flatMap_cons, List.sum_append, ih, sq_to, SQ_cons, List.sum_cons, List.length_cons]
    grind
theorem no_pairs {os : List Int} (h : (os.flatMap fun a => os.map fun b => (a - b) * (a - b)).sum * (os.length : Int) ≠ 2 * S1 (os.length : Int) os.sum os) : False := by
  apply h
  have e1 := sq_pairs os os
  have e2 := sq_expand (os.length : Int) os.sum os
  unfold S1
  rw [e1, e2]
  grind
/-- what all two are apart -/
def apartOf (l os : List Int) : Int := (l.flatMap fun a => os.map fun b => if a - b < 0 then -(a - b) else a - b).sum
theorem flip_abs (a b : Int) : (if a - b < 0 then -(a - b) else a - b) = (if b - a < 0 then -(b - a) else b - a) := by split <;> split <;> omega
theorem apart_row (a : Int) (os : List Int) : (os.map fun b => if a - b < 0 then -(a - b) else a - b).sum = far os a := by
  unfold far
  congr 1
  exact List.map_congr_left fun b _ => flip_abs a b
theorem apart_cons (a : Int) (l os : List Int) : apartOf (a :: l) os = far os a + apartOf l os := by
  unfold apartOf
  rw [List.flatMap_cons, List.sum_append, apart_row]
theorem apart_more (a : Int) (r : List Int) : ∀ l : List Int, apartOf l (a :: r) = far l a + apartOf l r
  | [] => by simp [apartOf, far]
  | b :: l => by
    have ih := apart_more a r l
    rw [apart_cons, apart_cons, ih, far_cons, far_cons, flip_abs a b]
    omega
theorem far_least {a : Int} : ∀ {r : List Int}, (∀ v ∈ r, a ≤ v) → far r a = r.sum - (r.length : Int) * a
  | [], _ => by simp [far]
  | v :: r, h => by
    have ih := far_least (r := r) fun u hu => h u (.tail _ hu)
    have h1 := h v (.head _)
    rw [far_cons, ih, List.sum_cons, List.length_cons]
    have e : ((r.length + 1 : Nat) : Int) * a = (r.length : Int) * a + a := by grind
    rw [e]
    split <;> omega
/-- the weights by places in order -/
def wt (n : Int) : Int → List Int → Int
  | _, [] => 0
  | k, a :: r => (2 * k + 1 - n) * a + wt n (k + 1) r
theorem wt_up (n : Int) : ∀ (k : Int) (r : List Int), wt (n + 1) (k + 1) r = wt n k r + r.sum
  | _, [] => by simp [wt]
  | k, a :: r => by
    have ih := wt_up n (k + 1) r
    show (2 * (k + 1) + 1 - (n + 1)) * a + wt (n + 1) (k + 1 + 1) r = (2 * k + 1 - n) * a + wt n (k + 1) r + (a :: r).sum
    rw [ih, List.sum_cons]
    grind
theorem apart_wt : ∀ {os : List Int}, os.Pairwise (· ≤ ·) → apartOf os os = 2 * wt (os.length : Int) 0 os
  | [], _ => by simp [apartOf, wt]
  | a :: r, h => by
    obtain ⟨h1, h2⟩ := List.pairwise_cons.mp h
    have ih := apart_wt h2
    have e := far_least h1
    have w1 := wt_up (r.length : Int) 0 r
    rw [apart_cons, apart_more, ih, far_cons, e]
    show (if a - a < 0 then -(a - a) else a - a) + (r.sum - (r.length : Int) * a) + (r.sum - (r.length : Int) * a + 2 * wt (r.length : Int) 0 r) = 2 * ((2 * 0 + 1 - ((a :: r).length : Int)) * a + wt ((a :: r).length : Int) (0 + 1) r)
    have e3 : ((a :: r).length : Int) = (r.length : Int) + 1 := by simp
    rw [e3, w1, if_neg (by omega)]
    grind
theorem wt_range (n : Int) : ∀ (os : List Int) (k : Int), ((List.range os.length).map fun (i : Nat) => (2 * (k + (i : Int)) + 1 - n) * os.getD i 0).sum = wt n k os
  | [], _ => by simp [wt]
  | a :: r, k => by
    have ih := wt_range n r (k + 1)
    rw [List.length_cons, List.range_succ_eq_map, List.map_cons, List.sum_cons, List.map_map]
    show (2 * (k + ((0 : Nat) : Int)) + 1 - n) * a + _ = (2 * k + 1 - n) * a + wt n (k + 1) r
    rw [← ih]
    have e : (fun i : Nat => (2 * (k + (i : Int)) + 1 - n) * (a :: r).getD i 0) ∘ Nat.succ = fun i : Nat => (2 * (k + 1 + (i : Int)) + 1 - n) * r.getD i 0 := by
      funext i
      show (2 * (k + ((i + 1 : Nat) : Int)) + 1 - n) * (a :: r).getD (i + 1) 0 = _
      rw [List.getD_cons_succ]
      have : (2 * (k + ((i + 1 : Nat) : Int)) + 1 - n) = (2 * (k + 1 + (i : Int)) + 1 - n) := by omega
      rw [this]
    rw [e]
    have : (2 * (k + ((0 : Nat) : Int)) + 1 - n) = (2 * k + 1 - n) := by omega
    rw [this]
theorem no_apart {os : List Int} (ho : Ord os) (h : (os.flatMap fun a => os.map fun b => if a - b < 0 then -(a - b) else a - b).sum ≠ 2 * ((rangeKs 0 ((os.length : Int) - 0).toNat).map fun k => (2 * k + 1 - (os.length : Int)) * os.getD k.toNat 0).sum) : False := by
  apply h
  have e1 := apart_wt ho.sorted
  have e2 := wt_range (os.length : Int) os 0
  have e3 : ((os.length : Int) - 0).toNat = os.length := by omega
  have e4 : (rangeKs 0 os.length).map (fun k => (2 * k + 1 - (os.length : Int)) * os.getD k.toNat 0) = (List.range os.length).map fun (i : Nat) => (2 * ((0 : Int) + (i : Int)) + 1 - (os.length : Int)) * os.getD i 0 := by
    unfold rangeKs
    rw [List.map_map]
    refine List.map_congr_left fun i _ => ?_
    show (2 * ((0 : Int) + (i : Int)) + 1 - (os.length : Int)) * os.getD ((0 : Int) + (i : Int)).toNat 0 = _
    have : ((0 : Int) + (i : Int)).toNat = i := by omega
    rw [this]
  rw [e3, e4, e2]
  exact e1
/-- twice c so often as far, no more than squares -/
theorem qs (c : Int) : ∀ l : List Int, 2 * c * far l 0 ≤ (l.length : Int) * (c * c) + SQ l
  | [] => by simp [far, SQ]
  | v :: r => by
    have ih := qs c r
    rw [far_cons, SQ_cons, List.length_cons]
    have h1 := sq_nonneg (c - (if v - 0 < 0 then -(v - 0) else v - 0))
    have h2 : (if v - 0 < 0 then -(v - 0) else v - 0) * (if v - 0 < 0 then -(v - 0) else v - 0) = v * v := by
      split
      · have : -(v - 0) = -v := by omega
        rw [this, Int.neg_mul_neg]
      · have : v - 0 = v := by omega
        rw [this]
    generalize (if v - 0 < 0 then -(v - 0) else v - 0) = z at h1 h2 ⊢
    have e1 : (c - z) * (c - z) = c * c - 2 * c * z + z * z := by grind
    have e2 : 2 * c * (z + far r 0) = 2 * c * z + 2 * c * far r 0 := by grind
    have e3 : ((r.length + 1 : Nat) : Int) * (c * c) = (r.length : Int) * (c * c) + c * c := by grind
    rw [e2, e3]
    omega
theorem far_sum : ∀ (l : List Int) (a : Int), (if l.sum - (l.length : Int) * a < 0 then -(l.sum - (l.length : Int) * a) else l.sum - (l.length : Int) * a) ≤ far l a
  | [], a => by simp [far]
  | v :: r, a => by
    have ih := far_sum r a
    rw [far_cons, List.sum_cons, List.length_cons]
    have e : ((r.length + 1 : Nat) : Int) * a = (r.length : Int) * a + a := by grind
    rw [e]
    split at ih <;> split <;> split <;> omega
theorem map_mul_sum (k : Int) : ∀ l : List Int, (l.map (k * ·)).sum = k * l.sum
  | [] => by simp
  | a :: r => by rw [List.map_cons, List.sum_cons, List.sum_cons, map_mul_sum k r]; grind
theorem far_of_map (k T : Int) : ∀ l : List Int, far (l.map (k * ·)) T = far (l.map fun v => k * v - T) 0
  | [] => by simp [far]
  | a :: r => by
    rw [List.map_cons, List.map_cons, far_cons, far_cons, far_of_map k T r]
    have : k * a - T - 0 = k * a - T := by omega
    rw [this]
theorem sq_of_map (k T : Int) (l : List Int) : SQ (l.map fun v => k * v - T) = S1 k T l := by
  unfold SQ S1
  rw [List.map_map]; rfl
/-- the middle one is no farther from the middle of weight, squared, than the middle of squares -/
theorem no_med {os : List Int} (ho : Ord os) (hp : 0 < os.length) (h : S1 (os.length : Int) os.sum os < ((os.length : Int) * mid os - os.sum) * ((os.length : Int) * mid os - os.sum) * (os.length : Int)) : False := by
  have hn : (0 : Int) < (os.length : Int) := by omega
  have f1 := far_scaled ho hp (k := (os.length : Int)) (by omega) os.sum
  have f2 := far_sum (os.map ((os.length : Int) * ·)) ((os.length : Int) * mid os)
  rw [map_mul_sum, List.length_map] at f2
  rw [far_of_map (os.length : Int) os.sum os] at f1
  generalize hd : (os.length : Int) * mid os - os.sum = d at h
  have e1 : (os.length : Int) * os.sum - (os.length : Int) * ((os.length : Int) * mid os) = -((os.length : Int) * d) := by rw [← hd]; grind
  rw [e1] at f2
  -- c: how far the middle one is, without its sign
  obtain ⟨c, hc, hcc, hcn⟩ : ∃ c : Int, 0 ≤ c ∧ c * c = d * d ∧ (os.length : Int) * c ≤ far (os.map ((os.length : Int) * ·)) ((os.length : Int) * mid os) := by
    by_cases hs : d < 0
    · refine ⟨-d, by omega, Int.neg_mul_neg d d, ?_⟩
      have h3 : (os.length : Int) * -d = -((os.length : Int) * d) := by grind
      have h4 : 0 ≤ (os.length : Int) * -d := Int.mul_nonneg (by omega) (by omega)
      rw [h3] at h4 ⊢
      rw [if_neg (by omega)] at f2
      exact f2
    · refine ⟨d, by omega, rfl, ?_⟩
      have h4 : 0 ≤ (os.length : Int) * d := Int.mul_nonneg (by omega) (by omega)
      split at f2 <;> omega
  have hA : (os.length : Int) * c ≤ far (os.map fun v => (os.length : Int) * v - os.sum) 0 := Int.le_trans hcn f1
  have q := qs c (os.map fun v => (os.length : Int) * v - os.sum)
  rw [sq_of_map, List.length_map, hcc] at q
  have h5 : 2 * c * ((os.length : Int) * c) ≤ 2 * c * far (os.map fun v => (os.length : Int) * v - os.sum) 0 := Int.mul_le_mul_of_nonneg_left hA (by omega)
  have h6 : 2 * c * ((os.length : Int) * c) = 2 * ((os.length : Int) * (d * d)) := by rw [← hcc]; grind
  have h7 : d * d * (os.length : Int) = (os.length : Int) * (d * d) := Int.mul_comm _ _
  omega
/-- all together are nearest to the middle one -/
theorem best_eq {os : List Int} {M : Int} (ho : Ord os) (hp : 0 < os.length) (ha : M ∈ (rangeKs 0 ((41 : Int) - 0).toNat).map fun k => (os.map fun v => if v - k < 0 then -(v - k) else v - k).sum)
    (hb : ∀ a, (a ∈ (rangeKs 0 ((41 : Int) - 0).toNat).map fun k => (os.map fun v => if v - k < 0 then -(v - k) else v - k).sum) → M ≤ a) : ((os.map fun v => if v - mid os < 0 then -(v - mid os) else v - mid os).sum == M) = true := by
  obtain ⟨k, hk, hM⟩ := List.mem_map.mp ha
  have h1 : far os (mid os) ≤ far os k := far_mid ho hp k
  have hmb := mid_bounds ho
  have hmem : mid os ∈ rangeKs 0 ((41 : Int) - 0).toNat := by
    unfold rangeKs
    exact List.mem_map.mpr ⟨(mid os).toNat, List.mem_range.mpr (by show (mid os).toNat < 41; omega), by omega⟩
  have h2 : M ≤ far os (mid os) := hb _ (List.mem_map.mpr ⟨mid os, hmem, rfl⟩)
  have h3 : far os k = M := hM
  have h4 : far os (mid os) = M := by omega
  exact beq_iff_eq.mpr h4
theorem no_self {a : Int} (h : a ≠ a) : False := h rfl
end Mine
open Mine
set_option maxHeartbeats 0
local macro_rules | `(tactic| walk_at "exec For") => `(tactic| (k_here; (with_reducible show wpAny _ _ (exec (Stmt.For (Expr.Name (Str.ofString "number") _) (Expr.Subscript _ _ _) _ [] _) _) _ _ _); (rename Fr _ _ _ _ => lF'); (with_unfolding_all refine' For_invVF lF' ?k1 ?k2 ?_; (case k1 => exact rfl); (case k2 => exact rfl); k_whole)))
local macro_rules | `(tactic| walk_at "pyIter ref") => `(tactic| (k_here; (with_reducible show wpAny _ _ (pyIter (Value.ref _)) (fun it s₂ => LoopAtV _ _ _ _ _ _ [Stmt.Expr _ _] _ _ it s₂) _ _); (rename Fr _ _ _ _ => lF'); (rename News _ _ _ _ => lN'); (with_unfolding_all refine' ins_iter (by rfl) lF' lN' (by assumption) ?_ ?_); (all_goals (try clear lF' lN'))))
local macro_rules | `(tactic| walk_at "InvEndN") => `(tactic| (k_here; refine InvEndN.intro (by assumption) (by assumption) ⟨⟨_, _, _, rfl, (by assumption), (by assumption), (by assumption)⟩, by (intro z h1; first | rfl | (simp [h1]; done))⟩ (by rfl) (by (with_unfolding_all ((try simp only [List.nil_append, List.cons_append]); k_allIn))) (by (intro p hp; k_ownIn))))
local macro_rules | `(tactic| walk_at "call builtin:list.insert") => `(tactic| (k_here; (with_reducible show wpAny _ _ (call (Value.builtin _) [Value.ref _, Value.int _ _, Value.int _ _]) _ _ _); k_dflt (refine' ins_step ?F ?N ?I ?O ?l ?h0 ?hle ?h2 ?hb ?hge ?U ?_; (case F => k_asm); (case N => k_asm); (case I => assumption); (case O => assumption); (case l => omega); (case h0 => assumption); (case hle => assumption); (case h2 => assumption); (case hb => assumption); (case hge => assumption); (case U => k_upd)); intro h' hI' hO' hL' F' N'))
local macro_rules | `(tactic| walk_at "exec While Compare cons nil") => `(tactic| (k_here; k_while_given ["a", "x"] (fun a x _ lo hi => 0 ≤ lo ∧ lo ≤ hi ∧ hi ≤ (a.length : Int) ∧ BL a x lo hi) (fun a x _ lo hi => (hi - lo).toNat) "lo" "hi"))
local macro_rules | `(tactic| walk_at "exec While Compare cons nil") => `(tactic| (k_here; (with_reducible show wpAny _ _ (exec _ (envOf (Str.ofString "bisect_right") _ _ _ _)) _ _ _); k_while_given ["a", "x"] (fun a x _ lo hi => 0 ≤ lo ∧ lo ≤ hi ∧ hi ≤ (a.length : Int) ∧ BR a x lo hi) (fun a x _ lo hi => (hi - lo).toNat) "lo" "hi"))
local macro_rules | `(tactic| kst_p) => `(tactic| ((try dsimp only); first | exact bl_start _ _ | exact bl_up (by assumption) (by assumption) (by assumption) (by assumption) (by assumption) (by assumption) | exact bl_dn (by assumption) (by assumption) (by assumption) (by assumption) (by assumption) (by assumption) | exact br_start _ _ | exact br_up (by assumption) (by assumption) (by assumption) (by assumption) (by assumption) (by assumption) | exact br_dn (by assumption) (by assumption) (by assumption) (by assumption) (by assumption) (by assumption)))
local macro_rules | `(tactic| ksw_less) => `(tactic| ((try dsimp only); first | exact ms_up (by assumption) (by assumption) | exact ms_dn (by assumption) (by assumption)))
local macro_rules | `(tactic| walk_at "pyIter ref") => `(tactic| (k_here; (with_reducible show wpAny _ _ (pyIter (Value.ref _)) (fun it s₂ => LoopAtV _ _ _ _ _ (Str.ofString "number") [Stmt.Assign _ _ _, Stmt.Assign _ _ _] _ _ it s₂) _ _); (rename Fr _ _ _ _ => lF'); (rename News _ _ _ _ => lN'); (with_unfolding_all refine' wh_iter (by rfl) lF' lN' ?hl ?hI (by assumption) ?len ?hs ?hi (by rfl) (by decide) ?e1 ?e2 ?lo ?_ ?_); (case hl => k_memK); (case hI => assumption); (case len => omega); (case hs => assumption); (case hi => assumption); (case e1 => k_all); (case e2 => k_all); (case lo => assumption); (all_goals (first | (intro pre n t T2 d o t0 t1 t2 t3 u h tk own hn0 hn1 hb0 hb1 hmk hoff lo' hs' fs' hi' fi' F' N'; (try simp only [List.cons_append, List.nil_append] at N'); (try simp only [List.map_cons, List.map_nil] at hoff)) | (intro T2 d o t0 t1 t2 t3 u h tk hs' hi' hq1 hq2 F' N'; clear hq1 hq2 hs' hi'))); (all_goals (try clear lF' lN'))))
local macro_rules | `(tactic| walk_at "InvEndG") => `(tactic| (k_here; (with_unfolding_all refine' wh_end ?F ?N ?off ?hs ?hi ?hw ?hm ?h1 ?h2 ?hn ?ho ?a1 ?a2 ?a3 ?a4 ?lo); (case F => assumption); (case N => assumption); (case hw => with_unfolding_all rfl); (case h1 => with_unfolding_all k_memK); (case h2 => with_unfolding_all k_memK); (case hs => assumption); (case hi => assumption); (case off => assumption); (case hm => (intro z h1 h2 h3; first | rfl | (simp [h1, h2, h3]; done))); (case hn => (with_unfolding_all ((try simp only [List.nil_append, List.cons_append]); k_allIn))); (case ho => (intro p hp; k_ownIn)); (case a1 => k_all); (case a2 => k_all); (case a3 => k_all); (case a4 => k_all); (case lo => assumption)))
local macro_rules | `(tactic| walk_at "subscriptTail Name Slice ref ref") => `(tactic| (k_here; (with_reducible show wpAny _ _ (subscriptTail _ (PySem.Expr.Slice none (some _) none _) (Value.ref _) (Value.ref _)) _ _ _); k_dflt (refine' slice_tuple_four ?F ?N ?l ?_ ?s ?t; (case F => k_asm); (case N => k_asm); (case l => k_mem); (case s => with_unfolding_all rfl); (case t => intro _; with_unfolding_all rfl)); intro D' h' F' N' l1; (try k_lt l1); (try k_sweep)))
local macro_rules | `(tactic| walk_at "subscriptTail Name Slice ref ref") => `(tactic| (k_here; (with_reducible show wpAny _ _ (subscriptTail _ (PySem.Expr.Slice none (some _) none _) (Value.ref _) (Value.ref _)) _ _ _); (rename Obj => oX); (rename News _ _ _ _ => lN'); k_dflt (refine' slice_told ?F lN' ?_ ?s ?t; (case F => k_asm); (case s => with_unfolding_all rfl); (case t => intro _; with_unfolding_all rfl)); (intro D' h' F' N' l1; clear lN'; (try k_lt l1); (try k_sweep))))
local macro_rules | `(tactic| walk_at "execs cons Return nil") => `(tactic| (k_here; (with_reducible show wpAny _ _ (execs [Stmt.Return (some (Expr.Constant (Const.bool false) _ _)) _] _) _ _ _); exfalso; first | exact no_sort (by assumption) (by assumption) (by assumption) (by assumption) | exact no_self (by assumption) | (refine' no_markov ?o1 ?b1 ?g1 ?l1 ?z1 ?t1 ?h1; (case h1 => assumption); (case o1 => assumption); (case b1 => assumption); (case g1 => assumption); (case l1 => assumption); (case z1 => assumption); (case t1 => assumption)) | (refine' no_above ?b1 ?g1 ?l1 ?z1 ?t1 ?h1; (case h1 => assumption); (case b1 => assumption); (case g1 => assumption); (case l1 => assumption); (case z1 => assumption); (case t1 => assumption)) | (refine' no_cheb2 ?f1 ?h1; (case h1 => assumption); (case f1 => assumption)) | exact no_cheb1 (by assumption) | (refine' no_med ?o1 ?p1 ?h1; (case h1 => assumption); (case o1 => assumption); (case p1 => assumption)) | (refine' no_half1 ?b1 ?g1 ?l1 ?z1 ?p1 ?h1; (case h1 => assumption); (case b1 => assumption); (case g1 => assumption); (case l1 => assumption); (case z1 => assumption); (case p1 => assumption)) | (refine' no_half2 ?b1 ?g1 ?l1 ?z1 ?p1 ?h1; (case h1 => assumption); (case b1 => assumption); (case g1 => assumption); (case l1 => assumption); (case z1 => assumption); (case p1 => assumption)) | exact no_about (by assumption) | (refine' no_apart ?o1 ?h1; (case h1 => assumption); (case o1 => assumption)) | exact no_pairs (by assumption)))
local macro_rules | `(tactic| walk_at "eval ListComp") => `(tactic| (k_here; (with_reducible show wpAny _ _ (eval (Expr.ListComp _ [⟨_, _, [_], _⟩] _ _) _) _ _ _); k_dflt (refine LCt.ListComp_T (F₀ := by k_asm) (by with_unfolding_all rfl) (by decide) (by rfl) (by decide) (by rfl) ?_)))
local macro_rules | `(tactic| walk_at "eval ListComp") => `(tactic| (k_here; (with_reducible show wpAny _ _ (eval (Expr.ListComp _ [_, _] _ _) _) _ _ _); k_dflt (refine ListComp_2 (tF₀ := by k_asm) (by with_unfolding_all rfl) (by decide) (by rfl) (by decide) (by rfl) (by rfl) (by decide) ?_ (by intro _; rfl) (by intro _ _; rfl))))
local macro_rules | `(tactic| walk_at "eval ListComp") => `(tactic| (k_here; (with_reducible show wpAny _ _ (eval (Expr.ListComp (Expr.Call _ [Expr.ListComp _ _ _ _] _ _) [⟨_, _, [], _⟩] _ _) _) _ _ _); k_dflt (refine ListComp_C (tF₀ := by k_asm) (by with_unfolding_all rfl) (by intro _; rfl) (by intro _; rfl) (by rfl) (by decide) (by intro _ _; rfl) ?_ (by intro _; rfl))))
local macro_rules | `(tactic| walk_at "CompSrcT") => `(tactic| (k_here; k_dflt (refine LCt.CompSrcT.ledger (by rfl) (by k_asm) (by k_asm) (by k_mem) (by exact size_us (by assumption) (by omega)) ?_; intro g'; (refine' lcT_list _ _ (by assumption) (fun k' t' I' oI' C' oC' D' m' ys' h' tk' E' hk' hC' hx' F' N' off' ne' hMark' => ?_) ?_); kcf_last)))
local macro_rules | `(tactic| walk_at "CompSrc") => `(tactic| (k_here; k_dflt (refine LCg.CompSrc.ledger (by rfl) (by k_asm) (by k_asm) (by k_mem) (by exact size_us (by assumption) (by omega)) ?_; intro g'; (refine' kcf_list _ (by assumption) (fun k' t' I' oI' C' oC' D' m' ys' h' tk' E' hk' hC' hx' F' N' off' ne' hMark' => ?_) ?_); kcf_last)))
local macro_rules | `(tactic| walk_at "CompSrc") => `(tactic| (k_here; k_dflt (refine LCg.CompSrc.range (by rfl) (by k_asm) (by k_asm) (by assumption) (by exact small_one (by omega) (by omega) (by omega) (by omega)) (by exact rangeSize_nat _ _) (by rw [sizeLine_eq]; omega) ?_; intro g'; (refine' kcf_range _ (fun k' t' I' oI' C' oC' D' m' ys' h' tk' E' hlo' hhi' hC' hx' F' N' off' ne' hMark' => ?_) ?_); kcf_last)))
local macro_rules | `(tactic| walk_at "TestOk") => `(tactic| (k_here; (refine TestOk.intro ?kce ?_ ?_); (case kce => kpf_eq)))
local macro_rules | `(tactic| walk_at "CompEnd") => `(tactic| (k_here; (refine LCg.CompEnd.intro (by assumption) (by assumption) _ (by kcf_all) (by assumption) (by first | lcg_src | assumption) rfl)))
local macro_rules | `(tactic| walk_at "FinE") => `(tactic| (k_here; (unfold LCg.FinE); (intro D' h' tk' F' N' o1'; clear o1'); (try simp only [List.nil_append, List.cons_append] at N'); (try dsimp only)))
local macro_rules | `(tactic| walk_at "Comp2Src") => `(tactic| (k_here; k_dflt (refine' comp2_intro _ (by rfl) ?F ?N ?l ?I ?n ?i2 ?_ ?_); (case F => k_asm); (case N => k_asm); (case l => k_mem); (case I => assumption); (case n => omega); (case i2 => (intro C s' news' Q' E' N' hs hq; k_dflt (refine' lcf_cell N' ?c (hs _ ?m) ?d hq ?a ?b); (case a => rfl); (case b => rfl); (case c => rfl); (case m => k_mem); (case d => k_asm))); (all_goals (first | (intro a ta b tb I oI I2 oI2 C oC D m₂ ys h tk E' ha hb hC hx hy F' N' hMark') | (intro D ys h tk hI F' N' o1'; clear o1') | skip)); kcf_last))
local macro_rules | `(tactic| walk_at "CompCSrc") => `(tactic| (k_here; k_dflt (refine' compC_intro _ (by rfl) ?F ?N ?r ?s ?n ?z ?_ ?_); (case F => k_asm); (case N => k_asm); (case r => assumption); (case s => decide); (case n => exact rangeSize_nat _ _); (case z => decide); (all_goals (first | (intro k t I oI C oC c oc D ys h tk E' hlo hhi hd F' N' hMark') | (intro D ys h tk hI F' N' o1'; clear o1') | skip)); kcf_last))
local macro_rules | `(tactic| walk_at "El2") => `(tactic| (k_here; (refine' El2.intro ?F ?N ?hs ?e); (case F => assumption); (case N => assumption); (case hs => kcf_all); (case e => kpf_eq)))
local macro_rules | `(tactic| walk_at "call builtin:len") => `(tactic| (k_here; (with_reducible show wpAny _ _ (call (Value.builtin "len") [Value.ref _]) _ _ _); (rename News _ _ _ _ => lN'); k_dflt (refine' len_drop lN' ?i ?l ?_; (case i => assumption); (case l => omega)); (intro N'; clear lN')))
local macro_rules | `(tactic| walk_at "call builtin:sum") => `(tactic| (k_here; (with_reducible show wpAny _ _ (call (Value.builtin "sum") [Value.ref _]) _ _ _); (rename News _ _ _ _ => lN'); (with_unfolding_all refine' sum_drop (by rfl) ?F lN' ?i ?_); (case F => k_asm); (case i => assumption); (intro h' tk' t' F' N'; clear lN'; (try k_sweep))))
local macro_rules | `(tactic| walk_at "call builtin:min") => `(tactic| (k_here; (with_reducible show wpAny _ _ (call (Value.builtin "min") [Value.ref _]) _ _ _); (rename News _ _ _ _ => lN'); (with_unfolding_all refine' min_drop (by rfl) ?F lN' ?i ?n ?_); (case F => k_asm); (case i => assumption); (case n => (rw [List.length_map, rangeKs_length]; decide)); (intro h' M' t' tk' F' N' ha' hb'; clear lN'; (try k_sweep))))
local macro_rules | `(tactic| walk_at "exec For Name List cons nil") => `(tactic| (k_here; (with_reducible show wpAny _ _ (exec (Stmt.For (Expr.Name _ _) (Expr.List _ _) _ [] _) _) _ _ _); (rename Fr _ _ _ _ => lF'); (with_unfolding_all refine' For_cell lF' ?k1 ?k2 ?_ ?k3 ?k4); (case k1 => rfl); (case k2 => rfl); (case k3 => (intro _; rfl)); (case k4 => passes_own); k_whole))
local macro_rules | `(tactic| walk_at "CellAt") => `(tactic| (k_here; (rename Fr _ _ _ _ => lF'); (rename News _ _ _ _ => lN'); (with_unfolding_all refine' cellAt_intro (Str.ofString "off") (by rfl) (by rfl) lF' lN' ?U ?d ?D ?I ?_ ?_); (case U => k_updF); (case d => k_asm); (case D => with_unfolding_all k_memK); (case I => repeat constructor); (all_goals (first | (intro f t u oc h tk own hf hd hoff F' N'; (first | (have hb := far_bounds hf) | (have hb := about_bounds' (by assumption) hf)); (obtain ⟨hb1, hb2⟩ := hb); clear hf; (try simp only [List.cons_append, List.nil_append] at N'); (try simp only [List.map_cons, List.map_nil] at hoff); (have hMark' := kstMark)) | (intro u oc v h tk hd F' N'))); (all_goals (try clear lF' lN')); (all_goals (try k_fold))))
local macro_rules | `(tactic| walk_at "InvEndN") => `(tactic| (k_here; (with_unfolding_all refine' cell_end ?F ?N ?hsub ?hd ?ho ?ha ?hm); (case F => assumption); (case N => assumption); (case hsub => (with_unfolding_all ((try simp only [List.nil_append, List.cons_append]); k_allIn))); (case hd => assumption); (case ho => (intro p hp; k_ownIn)); (case ha => rfl); (case hm => (intro z h1; first | rfl | (simp [h1]; done)))))
local macro_rules | `(tactic| walk_at "subscriptTail Name BinOp ref int") => `(tactic| (k_here; (with_reducible show wpAny _ _ (subscriptTail _ _ (Value.ref _) (Value.int (Int.fdiv _ _) _)) _ _ _); k_dflt (refine' item_mid ?N ?m ?I ?O ?ne ?l ?_ ?s; (case N => k_asm); (case m => k_mem); (case I => assumption); (case O => assumption); (case ne => assumption); (case l => omega); (case s => with_unfolding_all rfl)); intro t' hp' hm1' hm2' hm3' hm4'))
local macro_rules | `(tactic| walk_at "subscriptTail Name Name ref int") => `(tactic| (k_here; (with_reducible show wpAny _ _ (subscriptTail _ _ (Value.ref _) (Value.int _ _)) _ _ _); k_dflt (refine' item_k ?N ?m ?I ?k0 ?k1 ?k2 ?_ ?s; (case N => k_asm); (case m => k_mem); (case I => assumption); (case k1 => assumption); (case k0 => assumption); (case k2 => omega); (case s => with_unfolding_all rfl)); intro t'))
local macro_rules | `(tactic| walk_at "binaryOp Pow int int") => `(tactic| (k_here; (with_reducible refine pow_two' ?a ?_); (case a => first | exact pw_off (by assumption) (by assumption) | exact c3_bnd (by assumption) (by omega) (by assumption) (by assumption) (by assumption) | exact c4_bnd (by assumption) (by omega) (by assumption) (by assumption) | exact c6_bnd (by assumption) (by assumption) (by assumption))))
local macro_rules | `(tactic| walk_at "binaryOp Mult int int") => `(tactic| (k_here; (with_reducible refine mul_two ?ok ?_); (case ok => first | exact mul_ok_filter (by omega) | exact mul_ok_len (by assumption) | exact mul_ok_lenR (by assumption) | exact mul_ok_bound | exact mul_ok_l (by decide) (by decide) | exact mul_ok_r (by decide) (by decide) | exact mul_ok_off (by assumption) (by assumption) | exact mul_ok_far (by assumption) (by assumption) | exact c5_ok (by assumption) (by assumption) (by assumption))))
local macro_rules | `(tactic| walk_at "exec For Tuple Call cons nil") => `(tactic| (k_here; (with_reducible show wpAny _ _ (exec (Stmt.For (Expr.Tuple _ _ _) (Expr.Call (Expr.Attribute _ (Str.ofString "items") _) [] [] _) _ [] _) _) _ _ _); (rename Fr _ _ _ _ => lF'); (rename News _ _ _ _ => lN'); (with_unfolding_all ((refine' For_turns lF' ?_); k_whole; (refine MethodCall_ ?_); (refine ld lF' (by rfl) ?_); (refine getMethod_tab (knd := PySem.strKind _ _) (enc := PyData.str) PySem.F.slot_dict_items PySem.F.type_dict_items (tab_none lN' (by k_memK) (by assumption) (by assumption)) ?_); (refine callWith_method0 ?_); (refine call_items_tab (knd := PySem.strKind _ _) (enc := PyData.str) (tab_none lN' (by k_memK) (by assumption) (by assumption)) lF' lN' ?_))); (intro h' o' hv' F' N'); (replace N' := kti_tail N'); (with_unfolding_all refine' items_none (by rfl) F' N' hv' ?m ?I ?lo ?_); (case m => k_memK); (case I => assumption); (case lo => assumption); clear lF' lN' F' N'; (intro h' tk' F' N')))
local macro_rules | `(tactic| walk_at "subscriptTail Name Constant ref int") => `(tactic| (k_here; (with_reducible show wpAny _ _ (subscriptTail _ _ (Value.ref _) (Value.int _ _)) _ _ _); k_dflt (refine' item_told ?N ?m ?k0 ?k1 ?x ?_ ?s ?g; (case N => k_asm); (case m => k_mem); (case k0 => decide); (case k1 => decide); (case x => rfl); (case s => with_unfolding_all rfl); (case g => (intro _; with_unfolding_all rfl)))))
local macro_rules | `(tactic| walk_at "GoodW cons ok") => `(tactic| (k_here; (have hbe := best_eq (by assumption) (by assumption) (by assumption) (by assumption)); (simp only [hbe]); kc_close))
set_option rowWalk.seconds 0 in
theorem PySem.Challenge.cw_hm0002_01_holds : PySem.Challenge.rw_hm0002_01.Holds := by
  open_k
