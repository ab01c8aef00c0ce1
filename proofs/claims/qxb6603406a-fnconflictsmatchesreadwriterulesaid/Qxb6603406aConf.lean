/-
  Seat b6603406a: Element.Conflicts.
-/
import Derived.Test.Qxb6603406aHolds
import Derived.Handy
namespace Go.Proofs.Qxb6603406a
open Go.ChangeShapes Go.WideShapes Go.ChangeAt Go.RowKit

/-- An Element lies in block E: its transaction t, the lists it reads and writes. -/
structure Elem (w : World) (E : Nat) (t : ByteArray) (ar : Option Addr) (lr cr : Nat) (aw : Option Addr) (lw cw : Nat) : Prop where
  c0 : w.cell? ⟨E, 0, none⟩ = some (.string t)
  c1 : w.cell? ⟨E, 1, none⟩ = some (.slice ar lr cr)
  c2 : w.cell? ⟨E, 2, none⟩ = some (.slice aw lw cw)
  lt : E < w.heap.size

theorem Elem.below {w w' : World} {E : Nat} {t : ByteArray} {ar aw : Option Addr} {lr cr lw cw : Nat} (h : Elem w E t ar lr cr aw lw cw) (hb : Below w.heap.size w w') : Elem w' E t ar lr cr aw lw cw :=
  ⟨(hb.cell (p := ⟨E, 0, none⟩) h.lt).trans h.c0, (hb.cell (p := ⟨E, 1, none⟩) h.lt).trans h.c1, (hb.cell (p := ⟨E, 2, none⟩) h.lt).trans h.c2, Nat.lt_of_lt_of_le h.lt hb.size⟩

theorem below_via {w w1 w2 : World} (h1 : Below w.heap.size w w1) (h2 : Below w1.heap.size w1 w2) : Below w.heap.size w w2 := h1.trans (h2.mono h1.size)

set_option maxHeartbeats 1000000 in
set_option maxRecDepth 100000 in
theorem conflict_read (au : Option Addr) (lu cu : Nat) (fu : Nat → ByteArray) (E : Nat) (t : ByteArray) (ar : Option Addr) (lr cr : Nat) (aw : Option Addr) (lw cw : Nat) (fw : Nat → ByteArray) (w : World)
    (hu : Strs w au lu fu) (hw : Strs w aw lw fw) (he : Elem w E t ar lr cr aw lw cw) (hlu : lu ≤ 1048576) (hlw : lw ≤ 1048576) :
    Calls Try.prog 37 #[.int .i64 0, .slice au lu cu, .pointer (some ⟨E, 0, none⟩)] w (RetsG (Meet fu lu fw lw) w) := by
  have c0 := he.c0
  have c1 := he.c1
  have c2 := he.c2
  go_enter Try.func37, Try.ntmps37
  go_wp2
  refine wp_loop_rounds 3 ?_
  rw [rounds_succ]
  go_wp2_with (first | (go_at_call 32; fail) | go_in)
  rw [rounds_succ]
  go_wp2_with (first | (go_at_call 32; refine (holdsOneOf_any au lu cu fu aw lw cw fw _ hlu hlw ?_ ?_).mono ?_; exact hu.below ((Below.refl _ _).alloc (Nat.le_refl _) _); exact hw.below ((Below.refl _ _).alloc (Nat.le_refl _) _); rintro e w2 ⟨r, rfl, hr, b2⟩; have HR : Hid (r = true ↔ Meet fu lu fw lw) := hr; clear hr) | go_in)
  · have hr : r = true := by assumption
    go_ret
    exact RetsG.mk _ ⟨fun _ => HR.out.1 hr, fun _ => rfl⟩ (below_via ((Below.refl _ _).alloc (Nat.le_refl _) _) b2)
  · have hr : r = false := by assumption
    rw [rounds_succ]
    go_wp2
    go_ret
    exact RetsG.mk _ ⟨fun h => (by simp at h), fun h => (by have := HR.out.2 h; rw [hr] at this; cases this)⟩ (below_via ((Below.refl _ _).alloc (Nat.le_refl _) _) b2)

set_option maxHeartbeats 1000000 in
set_option maxRecDepth 100000 in
theorem conflict_write (au : Option Addr) (lu cu : Nat) (fu : Nat → ByteArray) (E : Nat) (t : ByteArray) (ar : Option Addr) (lr cr : Nat) (fr : Nat → ByteArray) (aw : Option Addr) (lw cw : Nat) (fw : Nat → ByteArray) (w : World)
    (hu : Strs w au lu fu) (hr0 : Strs w ar lr fr) (hw : Strs w aw lw fw) (he : Elem w E t ar lr cr aw lw cw) (hlu : lu ≤ 1048576) (hlr : lr ≤ 1048576) (hlw : lw ≤ 1048576) :
    Calls Try.prog 37 #[.int .i64 1, .slice au lu cu, .pointer (some ⟨E, 0, none⟩)] w (RetsG (Meet fu lu fr lr ∨ Meet fu lu fw lw) w) := by
  have c0 := he.c0
  have c1 := he.c1
  have c2 := he.c2
  go_enter Try.func37, Try.ntmps37
  go_wp2
  refine wp_loop_rounds 3 ?_
  rw [rounds_succ]
  go_wp2_with (first | (go_at_call 32; refine (holdsOneOf_any au lu cu fu ar lr cr fr _ hlu hlr ?_ ?_).mono ?_; exact hu.below ((Below.refl _ _).alloc (Nat.le_refl _) _); exact hr0.below ((Below.refl _ _).alloc (Nat.le_refl _) _); rintro e w2 ⟨r, rfl, hr, b2⟩; have HR : Hid (r = true ↔ Meet fu lu fr lr) := hr; clear hr) | go_in)
  · have hr : r = true := by assumption
    go_ret
    exact RetsG.mk _ ⟨fun _ => .inl (HR.out.1 hr), fun _ => rfl⟩ (below_via ((Below.refl _ _).alloc (Nat.le_refl _) _) b2)
  · have hr : r = false := by assumption
    have b2' : Below w.heap.size w w2 := below_via ((Below.refl _ _).alloc (Nat.le_refl _) _) b2
    have hNo : ¬ Meet fu lu fr lr := fun h => by have := HR.out.2 h; rw [hr] at this; cases this
    have he2 := he.below b2'
    have hu2 := hu.below b2'
    have hw2 := hw.below b2'
    have e0 := he2.c0
    have e1 := he2.c1
    have e2 := he2.c2
    clear c0 c1 c2 he he2 hu hw hr0 HR b2
    rw [rounds_succ]
    go_wp2_with (first | (go_at_call 32; refine (holdsOneOf_any au lu cu fu aw lw cw fw _ hlu hlw ?_ ?_).mono ?_; exact hu2.below ((Below.refl _ _).alloc (Nat.le_refl _) _); exact hw2.below ((Below.refl _ _).alloc (Nat.le_refl _) _); rintro e w3 ⟨r', rfl, hr', b3⟩; have HR' : Hid (r' = true ↔ Meet fu lu fw lw) := hr'; clear hr') | go_in)
    · have hr' : r' = true := by assumption
      go_ret
      exact RetsG.mk _ ⟨fun _ => .inr (HR'.out.1 hr'), fun _ => rfl⟩ (below_via b2' (below_via ((Below.refl _ _).alloc (Nat.le_refl _) _) b3))
    · have hr' : r' = false := by assumption
      rw [rounds_succ]
      go_wp2
      go_ret
      refine RetsG.mk _ ⟨fun h => (by simp at h), fun h => ?_⟩ (below_via b2' (below_via ((Below.refl _ _).alloc (Nat.le_refl _) _) b3))
      rcases h with h | h
      · exact absurd h hNo
      · have := HR'.out.2 h; rw [hr'] at this; cases this

/-- The rule: different transactions, and the writes of one meet the reads or writes of the other. -/
def Rule (t1 : ByteArray) (fr1 : Nat → ByteArray) (lr1 : Nat) (fw1 : Nat → ByteArray) (lw1 : Nat) (t2 : ByteArray) (fr2 : Nat → ByteArray) (lr2 : Nat) (fw2 : Nat → ByteArray) (lw2 : Nat) : Prop :=
  t1 ≠ t2 ∧ (Meet fr1 lr1 fw2 lw2 ∨ Meet fw1 lw1 fr2 lr2 ∨ Meet fw1 lw1 fw2 lw2)

set_option maxHeartbeats 1000000 in
set_option maxRecDepth 100000 in
theorem conflicts_any (t1 : ByteArray) (ar1 : Option Addr) (lr1 cr1 : Nat) (fr1 : Nat → ByteArray) (aw1 : Option Addr) (lw1 cw1 : Nat) (fw1 : Nat → ByteArray)
    (t2 : ByteArray) (ar2 : Option Addr) (lr2 cr2 : Nat) (fr2 : Nat → ByteArray) (aw2 : Option Addr) (lw2 cw2 : Nat) (fw2 : Nat → ByteArray) (w : World)
    (hr1 : Strs w ar1 lr1 fr1) (hw1 : Strs w aw1 lw1 fw1) (hr2 : Strs w ar2 lr2 fr2) (hw2 : Strs w aw2 lw2 fw2) (ll : lr1 ≤ 1048576 ∧ lw1 ≤ 1048576 ∧ lr2 ≤ 1048576 ∧ lw2 ≤ 1048576) :
    Calls Try.prog 27 #[.agg #[.string t1, .slice ar1 lr1 cr1, .slice aw1 lw1 cw1], .agg #[.string t2, .slice ar2 lr2 cr2, .slice aw2 lw2 cw2]] w (RetsG (Rule t1 fr1 lr1 fw1 lw1 t2 fr2 lr2 fw2 lw2) w) := by
  obtain ⟨ll1, ll2, ll3, ll4⟩ := ll
  obtain ⟨W, hW⟩ : ∃ W, W = (w.alloc (.cells #[.string t1, .slice ar1 lr1 cr1, .slice aw1 lw1 cw1] 38)).alloc (.cells #[.string t2, .slice ar2 lr2 cr2, .slice aw2 lw2 cw2] 38) := ⟨_, rfl⟩
  have hbW : Below w.heap.size w W := by
    rw [hW]
    exact ((Below.refl _ _).alloc (Nat.le_refl _) _).alloc (by simp) _
  have heW : Elem W (w.heap.size + 1) t2 ar2 lr2 cr2 aw2 lw2 cw2 := by
    rw [hW]
    exact ⟨by simp, by simp, by simp, by simp⟩
  have hfW : Elem W w.heap.size t1 ar1 lr1 cr1 aw1 lw1 cw1 := by
    rw [hW]
    exact ⟨by simp, by simp, by simp, by simp; omega⟩
  have HW : Hid (W = (w.alloc (.cells #[.string t1, .slice ar1 lr1 cr1, .slice aw1 lw1 cw1] 38)).alloc (.cells #[.string t2, .slice ar2 lr2 cr2, .slice aw2 lw2 cw2] 38)) := hW
  clear hW
  cases he : (t1.toList == t2.toList) with
  | true =>
    go_enter Try.func27, Try.ntmps27
    go_wp2
    go_ret
    exact RetsG.mk _ ⟨fun h => (by simp at h), fun h => absurd (eq_of_lists he).symm h.1⟩ (((Below.refl _ _).alloc (Nat.le_refl _) _).alloc (by simp) _)
  | false =>
    have hne : t1 ≠ t2 := fun e => (ne_of_lists he) e.symm
    go_enter Try.func27, Try.ntmps27
    go_wp2
    rw [← HW.out]
    have c0 := hfW.c0
    have c1 := hfW.c1
    have c2 := hfW.c2
    have r1 := hr1.below hbW
    have w1 := hw1.below hbW
    have r2 := hr2.below hbW
    have w2 := hw2.below hbW
    clear HW hr1 hw1 hr2 hw2
    refine wp_loop_rounds 3 ?_
    rw [rounds_succ]
    go_wp2_with (first | (go_at_call 37; refine (conflict_read ar1 lr1 cr1 fr1 (w.heap.size + 1) t2 ar2 lr2 cr2 aw2 lw2 cw2 fw2 _ ?_ ?_ ?_ ll1 ll4).mono ?_; exact r1.below ((Below.refl _ _).alloc (Nat.le_refl _) _); exact w2.below ((Below.refl _ _).alloc (Nat.le_refl _) _); exact heW.below ((Below.refl _ _).alloc (Nat.le_refl _) _); rintro e w3 ⟨r, rfl, hr, b3⟩; have HR : Hid (r = true ↔ Meet fr1 lr1 fw2 lw2) := hr; clear hr) | go_in)
    · have hr : r = true := by assumption
      go_ret
      exact RetsG.mk _ ⟨fun _ => ⟨hne, .inl (HR.out.1 hr)⟩, fun _ => rfl⟩ (below_via hbW (below_via ((Below.refl _ _).alloc (Nat.le_refl _) _) b3))
    · have hr : r = false := by assumption
      have b3' : Below W.heap.size W w3 := below_via ((Below.refl _ _).alloc (Nat.le_refl _) _) b3
      have hNo : ¬ Meet fr1 lr1 fw2 lw2 := fun h => by have := HR.out.2 h; rw [hr] at this; cases this
      have he3 := heW.below b3'
      have hf3 := hfW.below b3'
      have w13 := w1.below b3'
      have r23 := r2.below b3'
      have w23 := w2.below b3'
      have e0 := hf3.c0
      have e1 := hf3.c1
      have e2 := hf3.c2
      clear c0 c1 c2 heW hfW hf3 r1 w1 r2 w2 HR b3
      rw [rounds_succ]
      go_wp2_with (first | (go_at_call 37; refine (conflict_write aw1 lw1 cw1 fw1 (w.heap.size + 1) t2 ar2 lr2 cr2 fr2 aw2 lw2 cw2 fw2 _ ?_ ?_ ?_ ?_ ll2 ll3 ll4).mono ?_; exact w13.below ((Below.refl _ _).alloc (Nat.le_refl _) _); exact r23.below ((Below.refl _ _).alloc (Nat.le_refl _) _); exact w23.below ((Below.refl _ _).alloc (Nat.le_refl _) _); exact he3.below ((Below.refl _ _).alloc (Nat.le_refl _) _); rintro e w4 ⟨r', rfl, hr', b4⟩; have HR' : Hid (r' = true ↔ Meet fw1 lw1 fr2 lr2 ∨ Meet fw1 lw1 fw2 lw2) := hr'; clear hr') | go_in)
      · have hr' : r' = true := by assumption
        go_ret
        exact RetsG.mk _ ⟨fun _ => ⟨hne, .inr (HR'.out.1 hr')⟩, fun _ => rfl⟩ (below_via hbW (below_via b3' (below_via ((Below.refl _ _).alloc (Nat.le_refl _) _) b4)))
      · have hr' : r' = false := by assumption
        rw [rounds_succ]
        go_wp2
        go_ret
        refine RetsG.mk _ ⟨fun h => (by simp at h), fun h => ?_⟩ (below_via hbW (below_via b3' (below_via ((Below.refl _ _).alloc (Nat.le_refl _) _) b4)))
        rcases h.2 with h | h
        · exact absurd h hNo
        · have := HR'.out.2 h; rw [hr'] at this; cases this

end Go.Proofs.Qxb6603406a
