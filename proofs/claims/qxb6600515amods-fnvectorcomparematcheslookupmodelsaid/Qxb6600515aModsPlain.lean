/-
  The plain law of seat b6600515aM: merging two sorted vectors answers as looking each device up in the other. No Go in sight.
-/
namespace Go.Proofs.Qxb6600515aMods

/-- The counter of a device: 0 where it is missing. -/
def lk : List (Int × Int) → Int → Int
  | [], _ => 0
  | p :: r, x => if p.1 = x then p.2 else lk r x

/-- Some device counts more in v. -/
def gM (V W : List (Int × Int)) : Bool := V.any (fun p => decide (lk W p.1 < p.2)) || W.any (fun q => decide (q.2 < lk V q.1))
/-- Some device counts less in v. -/
def lM (V W : List (Int × Int)) : Bool := V.any (fun p => decide (p.2 < lk W p.1)) || W.any (fun q => decide (lk V q.1 < q.2))

/-- The IDs are strictly increasing. -/
def Inc : List (Int × Int) → Prop
  | [] => True
  | p :: r => (∀ q ∈ r, p.1 < q.1) ∧ Inc r

theorem lk_none {W : List (Int × Int)} {x : Int} (h : ∀ q ∈ W, q.1 ≠ x) : lk W x = 0 := by
  induction W with
  | nil => rfl
  | cons q r ih =>
    rw [lk, if_neg (h q (by simp))]
    exact ih (fun p hp => h p (by simp [hp]))

theorem lk_skip {p : Int × Int} {r : List (Int × Int)} {x : Int} (h : p.1 ≠ x) : lk (p :: r) x = lk r x := by rw [lk, if_neg h]
theorem lk_hit {p : Int × Int} {r : List (Int × Int)} {x : Int} (h : p.1 = x) : lk (p :: r) x = p.2 := by rw [lk, if_pos h]

theorem any_congr {f g : Int × Int → Bool} {l : List (Int × Int)} (h : ∀ p ∈ l, f p = g p) : l.any f = l.any g := by
  induction l with
  | nil => rfl
  | cons p r ih => rw [List.any_cons, List.any_cons, h p (by simp), ih (fun q hq => h q (by simp [hq]))]

/-! The five steps of the merge. -/
theorem gM_left_end (p : Int × Int) (v : List (Int × Int)) : gM (p :: v) [] = (decide (0 < p.2) || gM v []) := by
  unfold gM
  rw [List.any_cons, Bool.or_assoc]
  rfl
theorem lM_left_end (p : Int × Int) (v : List (Int × Int)) : lM (p :: v) [] = (decide (p.2 < 0) || lM v []) := by
  unfold lM
  rw [List.any_cons, Bool.or_assoc]
  rfl
theorem gM_right_end (q : Int × Int) (w : List (Int × Int)) : gM [] (q :: w) = (decide (q.2 < 0) || gM [] w) := by
  unfold gM
  rw [List.any_cons, List.any_nil, Bool.false_or]
  rfl
theorem lM_right_end (q : Int × Int) (w : List (Int × Int)) : lM [] (q :: w) = (decide (0 < q.2) || lM [] w) := by
  unfold lM
  rw [List.any_cons, List.any_nil, Bool.false_or]
  rfl

theorem any_left {p q : Int × Int} {v w : List (Int × Int)} (hw : Inc (q :: w)) (h : p.1 < q.1) (f : Int → Int → Bool) :
    (p :: v).any (fun r => f (lk (q :: w) r.1) r.2) = (f 0 p.2 || v.any (fun r => f (lk (q :: w) r.1) r.2)) := by
  rw [List.any_cons, lk_none]
  intro r hr
  rcases List.mem_cons.1 hr with rfl | hr
  · omega
  · have := hw.1 r hr
    omega
theorem any_left' {p q : Int × Int} {v w : List (Int × Int)} (hw : Inc (q :: w)) (h : p.1 < q.1) (f : Int → Int → Bool) :
    (q :: w).any (fun r => f r.2 (lk (p :: v) r.1)) = (q :: w).any (fun r => f r.2 (lk v r.1)) := by
  apply any_congr
  intro r hr
  rw [lk_skip]
  rcases List.mem_cons.1 hr with rfl | hr
  · omega
  · have := hw.1 r hr
    omega

theorem gM_left {p q : Int × Int} {v w : List (Int × Int)} (hw : Inc (q :: w)) (h : p.1 < q.1) : gM (p :: v) (q :: w) = (decide (0 < p.2) || gM v (q :: w)) := by
  unfold gM
  rw [any_left hw h (fun a b => decide (a < b)), any_left' hw h (fun a b => decide (a < b)), Bool.or_assoc]
theorem lM_left {p q : Int × Int} {v w : List (Int × Int)} (hw : Inc (q :: w)) (h : p.1 < q.1) : lM (p :: v) (q :: w) = (decide (p.2 < 0) || lM v (q :: w)) := by
  unfold lM
  rw [any_left hw h (fun a b => decide (b < a)), any_left' hw h (fun a b => decide (b < a)), Bool.or_assoc]

theorem gM_swap (V W : List (Int × Int)) : gM V W = lM W V := by
  unfold gM lM
  rw [Bool.or_comm]
theorem lM_swap (V W : List (Int × Int)) : lM V W = gM W V := (gM_swap W V).symm

theorem gM_right {p q : Int × Int} {v w : List (Int × Int)} (hv : Inc (p :: v)) (h : q.1 < p.1) : gM (p :: v) (q :: w) = (decide (q.2 < 0) || gM (p :: v) w) := by
  rw [gM_swap, lM_left hv h, ← gM_swap]
theorem lM_right {p q : Int × Int} {v w : List (Int × Int)} (hv : Inc (p :: v)) (h : q.1 < p.1) : lM (p :: v) (q :: w) = (decide (0 < q.2) || lM (p :: v) w) := by
  rw [lM_swap, gM_left hv h, ← lM_swap]

theorem any_both {p q : Int × Int} {v w : List (Int × Int)} (hv : Inc (p :: v)) (h : p.1 = q.1) (f : Int → Int → Bool) :
    (p :: v).any (fun r => f (lk (q :: w) r.1) r.2) = (f q.2 p.2 || v.any (fun r => f (lk w r.1) r.2)) := by
  rw [List.any_cons, lk_hit h.symm]
  congr 1
  apply any_congr
  intro r hr
  rw [lk_skip]
  have := hv.1 r hr
  omega

theorem gM_both {p q : Int × Int} {v w : List (Int × Int)} (hv : Inc (p :: v)) (hw : Inc (q :: w)) (h : p.1 = q.1) : gM (p :: v) (q :: w) = (decide (q.2 < p.2) || gM v w) := by
  unfold gM
  rw [any_both hv h (fun a b => decide (a < b)), any_both hw h.symm (fun a b => decide (b < a))]
  cases decide (q.2 < p.2) <;> simp
theorem lM_both {p q : Int × Int} {v w : List (Int × Int)} (hv : Inc (p :: v)) (hw : Inc (q :: w)) (h : p.1 = q.1) : lM (p :: v) (q :: w) = (decide (p.2 < q.2) || lM v w) := by
  rw [lM_swap, gM_both hw hv h.symm, lM_swap]

theorem Inc.drop {V : List (Int × Int)} (h : Inc V) (k : Nat) : Inc (V.drop k) := by
  induction k generalizing V with
  | zero => exact h
  | succ k ih =>
    cases V with
    | nil => exact trivial
    | cons p r => exact ih h.2

/-- Inc, place by place. -/
theorem Inc.of_lt {V : List (Int × Int)} (h : ∀ i j (hi : i < V.length) (hj : j < V.length), i < j → V[i].1 < V[j].1) : Inc V := by
  induction V with
  | nil => exact trivial
  | cons p r ih =>
    refine ⟨fun q hq => ?_, ih fun i j hi hj hij => ?_⟩
    · obtain ⟨i, hi, rfl⟩ := List.getElem_of_mem hq
      exact h 0 (i + 1) (by simp) (by simp; omega) (by omega)
    · exact h (i + 1) (j + 1) (by simp; omega) (by simp; omega) (by omega)

/-- Neighbours in order: all in order. -/
theorem chain_lt {f : Nat → Int} {n : Nat} (h : ∀ i, 1 ≤ i → i < n → f (i - 1) < f i) : ∀ d i, i + d + 1 < n → f i < f (i + d + 1) := by
  intro d
  induction d with
  | zero => intro i hi; exact h (i + 1) (by omega) (by omega)
  | succ d ih =>
    intro i hi
    have h1 := ih i (by omega)
    have h2 := h (i + (d + 1) + 1) (by omega) (by omega)
    have e : i + (d + 1) + 1 - 1 = i + d + 1 := by omega
    rw [e] at h2
    omega

theorem lt_of_chain {f : Nat → Int} {n : Nat} (h : ∀ i, 1 ≤ i → i < n → f (i - 1) < f i) {i j : Nat} (hij : i < j) (hj : j < n) : f i < f j := by
  have := chain_lt h (j - i - 1) i (by omega)
  rwa [show i + (j - i - 1) + 1 = j by omega] at this

/-- A vector of IDs and values, as far as both go. -/
def pairs (I A : List Int) : List (Int × Int) := I.zip A

theorem pairs_length (I A : List Int) : (pairs I A).length = min I.length A.length := by simp [pairs]
theorem pairs_at (I A : List Int) (i : Nat) (h : i < (pairs I A).length) : (pairs I A)[i] = (I.getD i 0, A.getD i 0) := by
  have h' := h
  rw [pairs_length] at h'
  have h1 : i < I.length := by omega
  have h2 : i < A.length := by omega
  simp [pairs, h1, h2]

theorem Inc.pairs {I A : List Int} (h : ∀ i, 1 ≤ i → i < min I.length A.length → I.getD (i - 1) 0 < I.getD i 0) : Inc (pairs I A) := by
  apply Inc.of_lt
  intro i j hi hj hij
  rw [pairs_at, pairs_at]
  rw [pairs_length] at hi hj
  exact lt_of_chain (f := fun k => I.getD k 0) h hij hj

/-- Looking up by the place of the first that fits. -/
theorem lk_at {V : List (Int × Int)} {x : Int} {k : Nat} (hk : k < V.length) (h0 : ∀ i (hi : i < V.length), i < k → V[i].1 ≠ x) (h1 : V[k].1 = x) : lk V x = V[k].2 := by
  induction V generalizing k with
  | nil => simp at hk
  | cons p r ih =>
    cases k with
    | zero => exact lk_hit h1
    | succ k =>
      have hp : p.1 ≠ x := h0 0 (by simp) (by omega)
      rw [lk_skip hp]
      exact ih (k := k) (by simpa using hk) (fun i hi hik => h0 (i + 1) (by simp; omega) (by omega)) h1
theorem lk_nowhere {V : List (Int × Int)} {x : Int} (h : ∀ i (hi : i < V.length), V[i].1 ≠ x) : lk V x = 0 := by
  apply lk_none
  intro q hq
  obtain ⟨i, hi, rfl⟩ := List.getElem_of_mem hq
  exact h i hi

/-- The binary search's end: found. -/
theorem look_hit {zs ys : List Int} {x : Int} {m lo : Nat} (hm : m = min zs.length ys.length) (hlo : lo < m) (hl : ∀ i, i < lo → zs.getD i 0 < x) (hz : zs.getD lo 0 = x) : lk (pairs zs ys) x = ys.getD lo 0 := by
  have hp : lo < (pairs zs ys).length := by rw [pairs_length]; omega
  rw [lk_at hp, pairs_at]
  · intro i hi hik
    rw [pairs_at]
    have := hl i hik
    show zs.getD i 0 ≠ x
    omega
  · rw [pairs_at]
    exact hz

/-- The binary search's end: not there. -/
theorem look_miss {zs ys : List Int} {x : Int} {m lo : Nat} (hm : m = min zs.length ys.length) (hl : ∀ i, i < lo → zs.getD i 0 < x) (hh : ∀ i, lo ≤ i → i < m → x ≤ zs.getD i 0)
    (hinc : ∀ i, 1 ≤ i → i < m → zs.getD (i - 1) 0 < zs.getD i 0) (hz : lo < m → zs.getD lo 0 ≠ x) : lk (pairs zs ys) x = 0 := by
  apply lk_nowhere
  intro i hi
  have hi' := hi
  rw [pairs_length] at hi'
  rw [pairs_at]
  show zs.getD i 0 ≠ x
  by_cases h1 : i < lo
  · have := hl i h1
    omega
  · by_cases h2 : i = lo
    · subst h2
      exact hz (by omega)
    · have h3 := lt_of_chain (f := fun k => zs.getD k 0) hinc (i := lo) (j := i) (by omega) (by omega)
      have h4 := hh lo (Nat.le_refl _) (by omega)
      have h5 : zs.getD lo 0 < zs.getD i 0 := h3
      omega

/-! The merge's steps, by places. -/
theorem pairs_drop (I A : List Int) (i : Nat) (h : i < (pairs I A).length) : (pairs I A).drop i = (I.getD i 0, A.getD i 0) :: (pairs I A).drop (i + 1) := by
  rw [List.drop_eq_getElem_cons h, pairs_at]

theorem step_left_end {I A J B : List Int} {i j nv nw : Nat} (hv : (pairs I A).length = nv) (hw : (pairs J B).length = nw) (hi : i < nv) (hj : nw ≤ j) :
    gM ((pairs I A).drop i) ((pairs J B).drop j) = (decide (0 < A.getD i 0) || gM ((pairs I A).drop (i + 1)) ((pairs J B).drop j)) ∧
    lM ((pairs I A).drop i) ((pairs J B).drop j) = (decide (A.getD i 0 < 0) || lM ((pairs I A).drop (i + 1)) ((pairs J B).drop j)) := by
  rw [List.drop_of_length_le (l := pairs J B) (by omega), pairs_drop I A i (by omega)]
  exact ⟨gM_left_end _ _, lM_left_end _ _⟩

theorem step_right_end {I A J B : List Int} {i j nv nw : Nat} (hv : (pairs I A).length = nv) (hw : (pairs J B).length = nw) (hi : nv ≤ i) (hj : j < nw) :
    gM ((pairs I A).drop i) ((pairs J B).drop j) = (decide (B.getD j 0 < 0) || gM ((pairs I A).drop i) ((pairs J B).drop (j + 1))) ∧
    lM ((pairs I A).drop i) ((pairs J B).drop j) = (decide (0 < B.getD j 0) || lM ((pairs I A).drop i) ((pairs J B).drop (j + 1))) := by
  rw [List.drop_of_length_le (l := pairs I A) (by omega), pairs_drop J B j (by omega)]
  exact ⟨gM_right_end _ _, lM_right_end _ _⟩

theorem step_left {I A J B : List Int} {i j nv nw : Nat} (hv : (pairs I A).length = nv) (hw : (pairs J B).length = nw) (hi : i < nv) (hj : j < nw) (iw : Inc (pairs J B)) (h : I.getD i 0 < J.getD j 0) :
    gM ((pairs I A).drop i) ((pairs J B).drop j) = (decide (0 < A.getD i 0) || gM ((pairs I A).drop (i + 1)) ((pairs J B).drop j)) ∧
    lM ((pairs I A).drop i) ((pairs J B).drop j) = (decide (A.getD i 0 < 0) || lM ((pairs I A).drop (i + 1)) ((pairs J B).drop j)) := by
  have h2 := iw.drop j
  rw [pairs_drop J B j (by omega)] at h2 ⊢
  rw [pairs_drop I A i (by omega)]
  exact ⟨gM_left h2 h, lM_left h2 h⟩

theorem step_right {I A J B : List Int} {i j nv nw : Nat} (hv : (pairs I A).length = nv) (hw : (pairs J B).length = nw) (hi : i < nv) (hj : j < nw) (iv : Inc (pairs I A)) (h : J.getD j 0 < I.getD i 0) :
    gM ((pairs I A).drop i) ((pairs J B).drop j) = (decide (B.getD j 0 < 0) || gM ((pairs I A).drop i) ((pairs J B).drop (j + 1))) ∧
    lM ((pairs I A).drop i) ((pairs J B).drop j) = (decide (0 < B.getD j 0) || lM ((pairs I A).drop i) ((pairs J B).drop (j + 1))) := by
  have h1 := iv.drop i
  rw [pairs_drop I A i (by omega)] at h1 ⊢
  rw [pairs_drop J B j (by omega)]
  exact ⟨gM_right h1 h, lM_right h1 h⟩

theorem step_both {I A J B : List Int} {i j nv nw : Nat} (hv : (pairs I A).length = nv) (hw : (pairs J B).length = nw) (hi : i < nv) (hj : j < nw) (iv : Inc (pairs I A)) (iw : Inc (pairs J B)) (h : I.getD i 0 = J.getD j 0) :
    gM ((pairs I A).drop i) ((pairs J B).drop j) = (decide (B.getD j 0 < A.getD i 0) || gM ((pairs I A).drop (i + 1)) ((pairs J B).drop (j + 1))) ∧
    lM ((pairs I A).drop i) ((pairs J B).drop j) = (decide (A.getD i 0 < B.getD j 0) || lM ((pairs I A).drop (i + 1)) ((pairs J B).drop (j + 1))) := by
  have h1 := iv.drop i
  have h2 := iw.drop j
  rw [pairs_drop I A i (by omega)] at h1 ⊢
  rw [pairs_drop J B j (by omega)] at h2 ⊢
  exact ⟨gM_both h1 h2 h, lM_both h1 h2 h⟩

/-- A flag behind a step. -/
theorem or_step {X g m t m' : Bool} (h : X = (g || m)) (h' : m = (t || m')) : X = ((g || t) || m') := by rw [h, h', Bool.or_assoc]

/-- The answer's code. -/
def code (g l : Bool) : Int := if g && l then 3 else if g then 1 else if l then 2 else 0

end Go.Proofs.Qxb6600515aMods
