/-
  Seat b6603406a: plain mathematics, no Go in sight: a stretch of a sequence; merging; sorting by merging; the order of strings.
-/
import Derived.WalkKit
namespace Go.Proofs.Qxb6603406a

/-- The function g, turned at k. -/
def upd {α : Type} (g : Nat → α) (k : Nat) (x : α) (j : Nat) : α := if j = k then x else g j
theorem upd_same {α : Type} (g : Nat → α) (k : Nat) (x : α) : upd g k x k = x := by simp [upd]
theorem upd_other {α : Type} (g : Nat → α) {k j : Nat} (x : α) (h : j ≠ k) : upd g k x j = g j := by simp [upd, h]

section
variable {α : Type}

/-- The stretch f lo, .. , f (hi - 1). -/
def seg (f : Nat → α) (lo hi : Nat) : List α := (List.range' lo (hi - lo)).map f

theorem seg_nil (f : Nat → α) {lo hi : Nat} (h : hi ≤ lo) : seg f lo hi = [] := by
  have : hi - lo = 0 := by omega
  simp [seg, this]

theorem seg_cons (f : Nat → α) {lo hi : Nat} (h : lo < hi) : seg f lo hi = f lo :: seg f (lo + 1) hi := by
  obtain ⟨n, hn⟩ : ∃ n, hi - lo = n + 1 := ⟨hi - lo - 1, by omega⟩
  have hn' : hi - (lo + 1) = n := by omega
  simp [seg, hn, hn', List.range'_succ]

theorem seg_append (f : Nat → α) {lo m hi : Nat} (h1 : lo ≤ m) (h2 : m ≤ hi) : seg f lo hi = seg f lo m ++ seg f m hi := by
  have e : hi - lo = (m - lo) + (hi - m) := by omega
  have e2 : lo + (m - lo) = m := by omega
  unfold seg
  rw [e, ← List.range'_append_1, e2, List.map_append]

theorem seg_snoc (f : Nat → α) {lo k : Nat} (h : lo ≤ k) : seg f lo (k + 1) = seg f lo k ++ [f k] := by
  rw [seg_append f h (Nat.le_succ k), seg_cons f (Nat.lt_succ_self k), seg_nil f (Nat.le_refl _)]

theorem mem_seg {f : Nat → α} {lo hi : Nat} {x : α} : x ∈ seg f lo hi ↔ ∃ j, lo ≤ j ∧ j < hi ∧ f j = x := by
  simp only [seg, List.mem_map, List.mem_range'_1]
  constructor
  · rintro ⟨j, ⟨h1, h2⟩, e⟩; exact ⟨j, h1, by omega, e⟩
  · rintro ⟨j, h1, h2, e⟩; exact ⟨j, ⟨h1, by omega⟩, e⟩

theorem seg_congr {f g : Nat → α} {lo hi : Nat} (h : ∀ j, lo ≤ j → j < hi → f j = g j) : seg f lo hi = seg g lo hi := by
  unfold seg
  refine List.map_congr_left fun j hj => ?_
  rw [List.mem_range'_1] at hj
  exact h j hj.1 (by omega)

theorem seg_length (f : Nat → α) (lo hi : Nat) : (seg f lo hi).length = hi - lo := by simp [seg]

theorem seg_get (f : Nat → α) {lo hi i : Nat} (h : i < hi - lo) : (seg f lo hi)[i]? = some (f (lo + i)) := by
  simp [seg, h]

/-! ### merging -/
/-- Behind k - lo rounds: i and j say how far the two halves have been taken; what has been laid, and what is still to be merged, make the whole. -/
structure MState (le : α → α → Bool) (f h : Nat → α) (lo mid hi i j k : Nat) : Prop where
  li : lo ≤ i
  im : i ≤ mid
  mj : mid ≤ j
  jh : j ≤ hi
  kk : k + mid = i + j
  eq : seg h lo k ++ (seg f i mid).merge (seg f j hi) le = (seg f lo mid).merge (seg f mid hi) le

variable {le : α → α → Bool} {f h : Nat → α} {lo mid hi i j k : Nat}

theorem MState.start (h : Nat → α) (h1 : lo ≤ mid) (h2 : mid ≤ hi) : MState le f h lo mid hi lo mid lo :=
  ⟨Nat.le_refl _, h1, Nat.le_refl _, h2, by omega, by rw [seg_nil h (Nat.le_refl _), List.nil_append]⟩

theorem seg_upd_snoc (h : Nat → α) {lo k : Nat} (x : α) (hk : lo ≤ k) : seg (upd h k x) lo (k + 1) = seg h lo k ++ [x] := by
  rw [seg_snoc _ hk, upd_same]
  congr 1
  exact seg_congr fun j _ h2 => upd_other h x (by omega)

theorem MState.left (m : MState le f h lo mid hi i j k) (hi' : i < mid) (hle : hi ≤ j ∨ le (f i) (f j) = true) : MState le f (upd h k (f i)) lo mid hi (i + 1) j (k + 1) := by
  have hk : lo ≤ k := by have := m.kk; have := m.li; have := m.mj; omega
  refine ⟨by have := m.li; omega, by omega, m.mj, m.jh, by have := m.kk; omega, ?_⟩
  rw [seg_upd_snoc h (f i) hk, ← m.eq, seg_cons f hi', List.append_assoc]
  congr 1
  by_cases hj : j < hi
  · have hl : le (f i) (f j) = true := by
      rcases hle with h | h
      · omega
      · exact h
    rw [seg_cons f hj, List.cons_merge_cons, if_pos hl]
    rfl
  · rw [seg_nil f (by omega : hi ≤ j), List.merge_right, List.merge_right]
    rfl

theorem MState.right (m : MState le f h lo mid hi i j k) (hj : j < hi) (hle : mid ≤ i ∨ le (f i) (f j) = false) : MState le f (upd h k (f j)) lo mid hi i (j + 1) (k + 1) := by
  have hk : lo ≤ k := by have := m.kk; have := m.li; have := m.mj; omega
  refine ⟨m.li, m.im, by have := m.mj; omega, by omega, by have := m.kk; omega, ?_⟩
  rw [seg_upd_snoc h (f j) hk, ← m.eq, seg_cons f hj, List.append_assoc]
  congr 1
  by_cases hi' : i < mid
  · have hl : ¬ le (f i) (f j) = true := by
      rcases hle with h | h
      · omega
      · rw [h]; simp
    rw [seg_cons f hi', List.cons_merge_cons, if_neg hl]
    rfl
  · rw [seg_nil f (by omega : mid ≤ i), List.nil_merge, List.nil_merge]
    rfl

theorem MState.done (m : MState le f h lo mid hi i j k) (hk : hi ≤ k) : seg h lo hi = (seg f lo mid).merge (seg f mid hi) le := by
  have h1 := m.kk; have h2 := m.im; have h3 := m.jh; have h4 := m.li; have h5 := m.mj
  have e : k = hi := by omega
  have e2 : i = mid := by omega
  have e3 : j = hi := by omega
  have := m.eq
  rw [e, e2, e3, seg_nil f (Nat.le_refl _), seg_nil f (Nat.le_refl _), List.nil_merge, List.append_nil] at this
  exact this

/-! ### sorting -/
/-- f' is f with the stretch from lo to hi sorted. -/
structure SortedSeg (le : α → α → Bool) (f f' : Nat → α) (lo hi : Nat) : Prop where
  out : ∀ j, (j < lo ∨ hi ≤ j) → f' j = f j
  srt : (seg f' lo hi).Pairwise (fun a b => le a b = true)
  prm : (seg f' lo hi).Perm (seg f lo hi)

theorem SortedSeg.short (f : Nat → α) (h : hi < lo + 2) : SortedSeg le f f lo hi := by
  refine ⟨fun _ _ => rfl, ?_, List.Perm.refl _⟩
  by_cases h0 : lo < hi
  · have e : hi = lo + 1 := by omega
    rw [e, seg_snoc f (Nat.le_refl _), seg_nil f (Nat.le_refl _)]
    simp
  · rw [seg_nil f (by omega)]
    exact List.Pairwise.nil

theorem merge_congr {le le' : α → α → Bool} : ∀ (xs ys : List α), (∀ x ∈ xs, ∀ y ∈ ys, le x y = le' x y) → xs.merge ys le = xs.merge ys le'
  | [], ys, _ => by rw [List.nil_merge, List.nil_merge]
  | x :: xs, [], _ => by rw [List.merge_right, List.merge_right]
  | x :: xs, y :: ys, h => by
    have e := h x (by simp) y (by simp)
    have h1 := merge_congr xs (y :: ys) (fun a ha b hb => h a (by simp [ha]) b hb)
    have h2 := merge_congr (x :: xs) ys (fun a ha b hb => h a ha b (by simp [hb]))
    rw [List.cons_merge_cons, List.cons_merge_cons, e, h1, h2]

/-- The two halves sorted, then merged, make the whole sorted. 'le'' is the order by which the halves are sorted; 'le' the test by which they are merged: between the halves the two say the same. -/
theorem SortedSeg.merged {le le' : α → α → Bool} {f f1 f2 f3 : Nat → α} (trans : ∀ a b c, le' a b = true → le' b c = true → le' a c = true) (total : ∀ a b, (le' a b || le' b a) = true)
    (h1 : lo ≤ mid) (h2 : mid ≤ hi) (s1 : SortedSeg le' f f1 lo mid) (s2 : SortedSeg le' f1 f2 mid hi) (cross : ∀ x ∈ seg f lo mid, ∀ y ∈ seg f mid hi, le x y = le' x y)
    (hm : seg f3 lo hi = (seg f2 lo mid).merge (seg f2 mid hi) le) (hout : ∀ j, (j < lo ∨ hi ≤ j) → f3 j = f2 j) : SortedSeg le' f f3 lo hi := by
  have el : seg f2 lo mid = seg f1 lo mid := seg_congr fun j _ hj => s2.out j (by omega)
  have er : seg f1 mid hi = seg f mid hi := seg_congr fun j hj _ => s1.out j (by omega)
  have pl : (seg f2 lo mid).Perm (seg f lo mid) := by rw [el]; exact s1.prm
  have pr : (seg f2 mid hi).Perm (seg f mid hi) := by rw [← er]; exact s2.prm
  have hm' : seg f3 lo hi = (seg f2 lo mid).merge (seg f2 mid hi) le' := by
    rw [hm]
    exact merge_congr _ _ fun x hx y hy => cross x (pl.mem_iff.1 hx) y (pr.mem_iff.1 hy)
  refine ⟨fun j hj => (hout j hj).trans ((s2.out j (by omega)).trans (s1.out j (by omega))), ?_, ?_⟩
  · rw [hm']
    exact List.pairwise_merge trans total _ _ (by rw [el]; exact s1.srt) s2.srt
  · rw [hm', seg_append f h1 h2]
    exact (List.merge_perm_append le').trans (pl.append pr)

end

/-! ### the order of strings, as the model has it -/
theorem less_eq : ∀ (x y : List UInt8), Op.bytesLess x y = decide (x < y)
  | [], [] => by simp [Op.bytesLess]
  | a :: x, [] => by simp [Op.bytesLess]
  | [], b :: y => by simp [Op.bytesLess]
  | a :: x, b :: y => by
    have ih := less_eq x y
    unfold Op.bytesLess
    rw [ih, Bool.eq_iff_iff]
    simp [List.cons_lt_cons_iff]

theorem bytes_eq {a b : ByteArray} (h : a.data.toList = b.data.toList) : a = b := by
  cases a; cases b
  congr 1
  exact Array.toList_inj.1 h

/-- 'x <= y' as the model reckons it. -/
def leB (x y : ByteArray) : Bool := Op.bytesLess x.toList y.toList || x.toList == y.toList
/-- 'x < y' as the model reckons it. -/
def ltB (x y : ByteArray) : Bool := Op.bytesLess x.toList y.toList

theorem ltB_iff {x y : ByteArray} : ltB x y = true ↔ x.data.toList < y.data.toList := by
  unfold ltB
  rw [less_eq, decide_eq_true_iff, ByteArray.toList_eq, ByteArray.toList_eq]
theorem leB_iff {x y : ByteArray} : leB x y = true ↔ x.data.toList ≤ y.data.toList := by
  unfold leB
  rw [Bool.or_eq_true, less_eq, decide_eq_true_iff, beq_iff_eq, ByteArray.toList_eq, ByteArray.toList_eq]
  constructor
  · rintro (h | h)
    · exact List.le_of_lt h
    · rw [h]; exact List.le_refl _
  · intro h
    by_cases h' : x.data.toList < y.data.toList
    · exact .inl h'
    · exact .inr (List.le_antisymm h h')
theorem leB_total (x y : ByteArray) : (leB x y || leB y x) = true := by
  rw [Bool.or_eq_true, leB_iff, leB_iff]
  exact List.le_total _ _
theorem leB_trans (x y z : ByteArray) (h1 : leB x y = true) (h2 : leB y z = true) : leB x z = true := by
  rw [leB_iff] at *
  exact List.le_trans h1 h2
theorem leB_antisymm {x y : ByteArray} (h1 : leB x y = true) (h2 : leB y x = true) : x = y := by
  rw [leB_iff] at *
  exact bytes_eq (List.le_antisymm h1 h2)
theorem leB_refl (x : ByteArray) : leB x x = true := by rw [leB_iff]; exact List.le_refl _
theorem ltB_not {x y : ByteArray} : ltB x y = true ↔ leB y x = false := by
  rw [← Bool.not_eq_true, ltB_iff, leB_iff]
  exact Iff.symm Decidable.not_not
theorem ltB_false {x y : ByteArray} : ltB x y = false ↔ leB y x = true := by
  cases h : ltB x y
  · cases h2 : leB y x
    · rw [ltB_not.2 h2] at h; cases h
    · simp
  · rw [ltB_not.1 h]; simp

/-! ### sorted sequences -/
/-- The first n of f rise. -/
def Rises (f : Nat → ByteArray) (n : Nat) : Prop := ∀ p q, p ≤ q → q < n → leB (f p) (f q) = true

theorem SortedSeg.rises {f f' : Nat → ByteArray} {n : Nat} (s : SortedSeg leB f f' 0 n) : Rises f' n := by
  intro p q hpq hq
  by_cases e : p = q
  · subst e; exact leB_refl _
  · have h := List.pairwise_iff_getElem.1 s.srt p q (by rw [seg_length]; omega) (by rw [seg_length]; omega) (by omega)
    have e1 := seg_get f' (lo := 0) (hi := n) (i := p) (by omega)
    have e2 := seg_get f' (lo := 0) (hi := n) (i := q) (by omega)
    rw [List.getElem?_eq_getElem (by rw [seg_length]; omega), Nat.zero_add] at e1 e2
    rw [Option.some.inj e1, Option.some.inj e2] at h
    exact h

/-- x is among the first n of f. -/
def Among (f : Nat → ByteArray) (n : Nat) (x : ByteArray) : Prop := ∃ j, j < n ∧ f j = x

theorem among_seg {f : Nat → ByteArray} {n : Nat} {x : ByteArray} : x ∈ seg f 0 n ↔ Among f n x := by
  rw [mem_seg]
  exact ⟨fun ⟨j, _, h, e⟩ => ⟨j, h, e⟩, fun ⟨j, h, e⟩ => ⟨j, Nat.zero_le _, h, e⟩⟩

theorem SortedSeg.among {f f' : Nat → ByteArray} {n : Nat} (s : SortedSeg leB f f' 0 n) (x : ByteArray) : Among f' n x ↔ Among f n x := by
  rw [← among_seg, ← among_seg]
  exact s.prm.mem_iff

/-- The two lists share a string. -/
def Meet (f : Nat → ByteArray) (n : Nat) (g : Nat → ByteArray) (m : Nat) : Prop := ∃ i j, i < n ∧ j < m ∧ f i = g j
theorem Meet.symm {f g : Nat → ByteArray} {n m : Nat} (h : Meet f n g m) : Meet g m f n := by obtain ⟨i, j, hi, hj, e⟩ := h; exact ⟨j, i, hj, hi, e.symm⟩
theorem meet_iff {f g : Nat → ByteArray} {n m : Nat} : Meet f n g m ↔ ∃ x, Among f n x ∧ Among g m x :=
  ⟨fun ⟨i, j, hi, hj, e⟩ => ⟨f i, ⟨i, hi, rfl⟩, ⟨j, hj, e.symm⟩⟩, fun ⟨_, ⟨i, hi, e1⟩, ⟨j, hj, e2⟩⟩ => ⟨i, j, hi, hj, e1.trans e2.symm⟩⟩

theorem meet_sorted {f f' g g' : Nat → ByteArray} {n m : Nat} (s : SortedSeg leB f f' 0 n) (t : SortedSeg leB g g' 0 m) : Meet f' n g' m ↔ Meet f n g m := by
  rw [meet_iff, meet_iff]
  exact ⟨fun ⟨x, a, b⟩ => ⟨x, (s.among x).1 a, (t.among x).1 b⟩, fun ⟨x, a, b⟩ => ⟨x, (s.among x).2 a, (t.among x).2 b⟩⟩

/-- Walking two rising lists together: whatever they share lies from i and j on. -/
def Ahead (f : Nat → ByteArray) (n : Nat) (g : Nat → ByteArray) (m : Nat) (i j : Nat) : Prop := ∀ p q, p < n → q < m → f p = g q → i ≤ p ∧ j ≤ q

theorem Ahead.start (f : Nat → ByteArray) (n : Nat) (g : Nat → ByteArray) (m : Nat) : Ahead f n g m 0 0 := fun _ _ _ _ _ => ⟨Nat.zero_le _, Nat.zero_le _⟩
theorem Ahead.left {f g : Nat → ByteArray} {n m i j : Nat} (h : Ahead f n g m i j) (hg : Rises g m) (hlt : ltB (f i) (g j) = true) : Ahead f n g m (i + 1) j := by
  intro p q hp hq e
  obtain ⟨h1, h2⟩ := h p q hp hq e
  refine ⟨?_, h2⟩
  by_cases hpi : p = i
  · subst hpi
    have := hg j q h2 hq
    rw [← e] at this
    rw [ltB_not.1 hlt] at this
    cases this
  · omega
theorem Ahead.right {f g : Nat → ByteArray} {n m i j : Nat} (h : Ahead f n g m i j) (hf : Rises f n) (hne : f i ≠ g j) (hlt : ltB (f i) (g j) = false) : Ahead f n g m i (j + 1) := by
  intro p q hp hq e
  obtain ⟨h1, h2⟩ := h p q hp hq e
  refine ⟨h1, ?_⟩
  by_cases hqj : q = j
  · subst hqj
    have a := hf i p h1 hp
    rw [e] at a
    exact absurd (leB_antisymm a (ltB_false.1 hlt)) hne
  · omega
theorem Ahead.stop {f g : Nat → ByteArray} {n m i j : Nat} (h : Ahead f n g m i j) (hs : n ≤ i ∨ m ≤ j) : ¬ Meet f n g m := by
  rintro ⟨p, q, hp, hq, e⟩
  obtain ⟨h1, h2⟩ := h p q hp hq e
  omega

/-- Halving: below lo all are less than x, from hi on none is. -/
def Halved (f : Nat → ByteArray) (n : Nat) (x : ByteArray) (lo hi : Nat) : Prop := (∀ p, p < lo → ltB (f p) x = true) ∧ ∀ p, hi ≤ p → p < n → ltB (f p) x = false

theorem Halved.up {f : Nat → ByteArray} {n : Nat} {x : ByteArray} {lo hi m : Nat} (h : Halved f n x lo hi) (hf : Rises f n) (hm : m < n) (hlt : ltB (f m) x = true) : Halved f n x (m + 1) hi := by
  refine ⟨fun p hp => ?_, h.2⟩
  have h1 := hf p m (by omega) hm
  have h2 := ltB_not.1 hlt
  rw [ltB_not]
  cases h3 : leB x (f p)
  · rfl
  · rw [leB_trans _ _ _ h3 h1] at h2; cases h2
theorem Halved.down {f : Nat → ByteArray} {n : Nat} {x : ByteArray} {lo hi m : Nat} (h : Halved f n x lo hi) (hf : Rises f n) (hlt : ltB (f m) x = false) : Halved f n x lo m := by
  refine ⟨h.1, fun p hp hpn => ?_⟩
  have h1 := hf m p hp hpn
  rw [ltB_false] at *
  exact leB_trans _ _ _ hlt h1
theorem Halved.found {f : Nat → ByteArray} {n : Nat} {x : ByteArray} {lo hi : Nat} (h : Halved f n x lo hi) (hf : Rises f n) (hlo : hi ≤ lo) : Among f n x ↔ lo < n ∧ f lo = x := by
  constructor
  · rintro ⟨j, hj, e⟩
    have hjl : ¬ j < lo := fun hlt => by
      have := ltB_not.1 (h.1 j hlt)
      rw [e, leB_refl] at this
      cases this
    have hl : lo < n := by omega
    refine ⟨hl, leB_antisymm ?_ ?_⟩
    · have := hf lo j (by omega) hj
      rw [e] at this
      exact this
    · exact ltB_false.1 (h.2 lo hlo hl)
  · rintro ⟨h1, h2⟩
    exact ⟨lo, h1, h2⟩

end Go.Proofs.Qxb6603406a
