/-
  Seat b6604345a: plain mathematics, no Go in sight: brackets, depth, the first hit outside every bracket.
-/
import Derived.WalkKit
namespace Go.Proofs.Qxb6604345a

/-- The function g, turned at k. -/
def upd {α : Type} (g : Nat → α) (k : Nat) (x : α) (j : Nat) : α := if j = k then x else g j
theorem upd_same {α : Type} (g : Nat → α) (k : Nat) (x : α) : upd g k x k = x := by simp [upd]
theorem upd_other {α : Type} (g : Nat → α) {k j : Nat} (x : α) (h : j ≠ k) : upd g k x j = g j := by simp [upd, h]

/-- Does x open a bracket? -/
def opB (x : ByteArray) : Bool := x.toList == [40] || x.toList == [91] || x.toList == [123]
/-- Does x close one? -/
def clB (x : ByteArray) : Bool := x.toList == [41] || x.toList == [93] || x.toList == [125]

theorem kinds (x : ByteArray) : (x.toList = [41] ∨ x.toList = [93] ∨ x.toList = [125] ∨ x.toList = [40] ∨ x.toList = [91] ∨ x.toList = [123]) ∨
    ((x.toList == [41]) = false ∧ (x.toList == [93]) = false ∧ (x.toList == [125]) = false ∧ (x.toList == [40]) = false ∧ (x.toList == [91]) = false ∧ (x.toList == [123]) = false) := by
  by_cases h1 : x.toList = [41]
  · exact .inl (.inl h1)
  by_cases h2 : x.toList = [93]
  · exact .inl (.inr (.inl h2))
  by_cases h3 : x.toList = [125]
  · exact .inl (.inr (.inr (.inl h3)))
  by_cases h4 : x.toList = [40]
  · exact .inl (.inr (.inr (.inr (.inl h4))))
  by_cases h5 : x.toList = [91]
  · exact .inl (.inr (.inr (.inr (.inr (.inl h5)))))
  by_cases h6 : x.toList = [123]
  · exact .inl (.inr (.inr (.inr (.inr (.inr h6)))))
  · exact .inr ⟨by simpa using h1, by simpa using h2, by simpa using h3, by simpa using h4, by simpa using h5, by simpa using h6⟩

/-- What x does to the depth. -/
def val (x : ByteArray) : Int := if opB x then 1 else if clB x then -1 else 0
theorem val_op {x : ByteArray} (h : opB x = true) : val x = 1 := by simp [val, h]
theorem val_cl {x : ByteArray} (h0 : opB x = false) (h : clB x = true) : val x = -1 := by simp [val, h0, h]
theorem val_no {x : ByteArray} (h0 : opB x = false) (h : clB x = false) : val x = 0 := by simp [val, h0, h]

/-- The depth at k, reckoned from i on. -/
def D (f : Nat → ByteArray) (i : Nat) : Nat → Int
  | 0 => 0
  | k + 1 => if i ≤ k then D f i k + val (f k) else 0

theorem D_self (f : Nat → ByteArray) : ∀ i, D f i i = 0
  | 0 => rfl
  | i + 1 => by unfold D; rw [if_neg (by omega)]
theorem D_succ (f : Nat → ByteArray) {i k : Nat} (h : i ≤ k) : D f i (k + 1) = D f i k + val (f k) := by
  conv => lhs; unfold D
  rw [if_pos h]
theorem D_add (f : Nat → ByteArray) {i m : Nat} (h : i ≤ m) : ∀ n, D f i (m + n) = D f i m + D f m (m + n)
  | 0 => by rw [Nat.add_zero, D_self]; omega
  | n + 1 => by
    have ih := D_add f h n
    rw [← Nat.add_assoc, D_succ f (by omega), D_succ f (by omega), ih]
    omega
theorem D_via (f : Nat → ByteArray) {i m k : Nat} (h : i ≤ m) (h2 : m ≤ k) : D f i k = D f i m + D f m k := by
  obtain ⟨n, rfl⟩ : ∃ n, k = m + n := ⟨k - m, by omega⟩
  exact D_add f h n
theorem val_bd (x : ByteArray) : -1 ≤ val x ∧ val x ≤ 1 := by unfold val; split <;> (try split) <;> omega
theorem D_bd (f : Nat → ByteArray) (i : Nat) : ∀ k : Nat, -(k : Int) ≤ D f i k ∧ D f i k ≤ k
  | 0 => by unfold D; omega
  | k + 1 => by
    have ih := D_bd f i k
    have v := val_bd (f k)
    unfold D
    split <;> omega

/-- x is the token looked for, or closes a bracket. -/
def Stopper (s x : ByteArray) : Prop := x = s ∨ clB x = true
/-- No token from i up to k lies outside every bracket and stops the search. -/
def NoHit (f : Nat → ByteArray) (s : ByteArray) (i k : Nat) : Prop := ∀ j, i ≤ j → j < k → ¬ (D f i j = 0 ∧ Stopper s (f j))
/-- r is the first place from i on that lies outside every bracket and stops the search, or n. -/
structure Hit (f : Nat → ByteArray) (s : ByteArray) (n i r : Nat) : Prop where
  lo : i ≤ r
  hi : r ≤ n
  no : NoHit f s i r
  yes : r = n ∨ (D f i r = 0 ∧ Stopper s (f r))

theorem Hit.unique {f : Nat → ByteArray} {s : ByteArray} {n i r r' : Nat} (h : Hit f s n i r) (h' : Hit f s n i r') : r = r' := by
  rcases Nat.lt_trichotomy r r' with hlt | e | hlt
  · rcases h.yes with e | y
    · have := h'.hi; omega
    · exact absurd y (h'.no r h.lo hlt)
  · exact e
  · rcases h'.yes with e | y
    · have := h.hi; omega
    · exact absurd y (h.no r' h'.lo hlt)

theorem NoHit.start (f : Nat → ByteArray) (s : ByteArray) (i : Nat) : NoHit f s i i := fun j h1 h2 => by omega
theorem NoHit.step {f : Nat → ByteArray} {s : ByteArray} {i k : Nat} (h : NoHit f s i k) (hk : ¬ (D f i k = 0 ∧ Stopper s (f k))) : NoHit f s i (k + 1) := by
  intro j h1 h2
  by_cases e : j = k
  · rw [e]; exact hk
  · exact h j h1 (by omega)

/-- A group that opens at k ends at r, or is never closed (r is then n): between, all is inside. -/
structure Group (f : Nat → ByteArray) (n k r : Nat) : Prop where
  lo : k < r
  hi : r ≤ n
  mid : ∀ j, k < j → j < r → 1 ≤ D f k j
  yes : r = n ∨ D f k r = 0

theorem NoHit.group {f : Nat → ByteArray} {s : ByteArray} {n i k r : Nat} (h : NoHit f s i k) (hik : i ≤ k) (h0 : D f i k = 0) (g : Group f n k r) (hs : ¬ Stopper s (f k)) : NoHit f s i r := by
  intro j h1 h2 ⟨h3, h4⟩
  by_cases hj : j < k
  · exact h j h1 hj ⟨h3, h4⟩
  by_cases e : j = k
  · rw [e] at h4; exact hs h4
  · have := g.mid j (by omega) h2
    rw [D_via f hik (by omega : k ≤ j)] at h3
    omega

theorem group_end {f : Nat → ByteArray} {n i k r : Nat} (hik : i ≤ k) (h0 : D f i k = 0) (g : Group f n k r) : D f i r = 0 ∨ r = n := by
  rcases g.yes with e | e
  · exact .inr e
  · refine .inl ?_
    rw [D_via f hik (Nat.le_of_lt g.lo), h0, e]
    rfl

/-- Up to a hit the depth never falls below nought. -/
theorem NoHit.nonneg {f : Nat → ByteArray} {s : ByteArray} {i r : Nat} (h : NoHit f s i r) : ∀ n, i + n ≤ r → 0 ≤ D f i (i + n)
  | 0, _ => by rw [Nat.add_zero, D_self]; omega
  | n + 1, hn => by
    have ih := h.nonneg n (by omega)
    rw [← Nat.add_assoc, D_succ f (by omega)]
    have v := val_bd (f (i + n))
    by_cases hv : val (f (i + n)) = -1
    · have hc : clB (f (i + n)) = true := by
        unfold val at hv
        split at hv
        · omega
        · split at hv
          · assumption
          · omega
      have := h (i + n) (by omega) (by omega)
      have hd : D f i (i + n) ≠ 0 := fun e => this ⟨e, .inr hc⟩
      omega
    · omega
theorem Hit.nonneg {f : Nat → ByteArray} {s : ByteArray} {n i r k : Nat} (h : Hit f s n i r) (h1 : i ≤ k) (h2 : k ≤ r) : 0 ≤ D f i k := by
  obtain ⟨m, rfl⟩ : ∃ m, k = i + m := ⟨k - i, by omega⟩
  exact h.no.nonneg m h2

/-- At a hit the search stays. -/
theorem Hit.again {f : Nat → ByteArray} {s : ByteArray} {n i r : Nat} (h : Hit f s n i r) (hr : r < n) : Hit f s n r r := by
  rcases h.yes with e | y
  · omega
  · exact ⟨Nat.le_refl _, h.hi, NoHit.start _ _ _, .inr ⟨D_self _ _, y.2⟩⟩
/-- What stands behind the hit does not matter. -/
theorem Hit.cut {f : Nat → ByteArray} {s : ByteArray} {n i r : Nat} (h : Hit f s n i r) (hr : r < n) : Hit f s (r + 1) i r := by
  rcases h.yes with e | y
  · omega
  · exact ⟨h.lo, Nat.le_succ _, h.no, .inr y⟩

theorem bytes_eq {a b : ByteArray} (h : a.data.toList = b.data.toList) : a = b := by
  cases a; cases b
  congr 1
  exact Array.toList_inj.1 h
theorem eq_of_lists {x y : ByteArray} (h : (x.toList == y.toList) = true) : x = y := by
  rw [ByteArray.toList_eq, ByteArray.toList_eq] at h
  exact bytes_eq (by simpa using h)
theorem ne_of_lists {x y : ByteArray} (h : (x.toList == y.toList) = false) : x ≠ y := by
  rintro rfl
  simp at h

end Go.Proofs.Qxb6604345a
