/-
  Seat b6603406a: firstOccurrences marks the first place of each string.
-/
import Derived.Test.Qxb6603406aIdx
import Derived.Test.Qxb6603406aMeets
namespace Go.Proofs.Qxb6603406a
open Go.ChangeShapes Go.WideShapes Go.ChangeAt Go.RowKit

/-! ### plain: a stable sort puts the least index of each run at the run's head -/
section
variable {key : Nat → ByteArray} {f : Nat → Nat} {n : Nat}

theorem idx_hit (s : SortedSeg (leX key) id f 0 n) {p : Nat} (hp : p < n) : ∃ q, q < n ∧ f q = p := by
  have : p ∈ seg id 0 n := mem_seg.2 ⟨p, Nat.zero_le _, hp, rfl⟩
  obtain ⟨q, _, hq, e⟩ := mem_seg.1 (s.prm.mem_iff.2 this)
  exact ⟨q, hq, e⟩

theorem idx_lt (s : SortedSeg (leX key) id f 0 n) {q : Nat} (hq : q < n) : f q < n := s.small (n := n) (fun _ h => h) (Nat.le_refl _) q hq

theorem idx_inj (s : SortedSeg (leX key) id f 0 n) {p q : Nat} (hp : p < n) (hq : q < n) (e : f p = f q) : p = q := by
  have hnd : (seg f 0 n).Nodup := s.prm.nodup_iff.2 (by
    have : seg (id : Nat → Nat) 0 n = List.range' 0 (n - 0) := by simp [seg]
    rw [this]
    exact List.nodup_range')
  have e1 := seg_get f (lo := 0) (hi := n) (i := p) (by omega)
  have e2 := seg_get f (lo := 0) (hi := n) (i := q) (by omega)
  rw [Nat.zero_add] at e1 e2
  exact (List.getElem?_inj (by rw [seg_length]; omega) hnd).1 (e1.trans ((congrArg some e).trans e2.symm))

theorem idx_le (s : SortedSeg (leX key) id f 0 n) {p q : Nat} (hpq : p < q) (hq : q < n) : leX key (f p) (f q) = true := by
  have h := List.pairwise_iff_getElem.1 s.srt p q (by rw [seg_length]; omega) (by rw [seg_length]; omega) hpq
  have e1 := seg_get f (lo := 0) (hi := n) (i := p) (by omega)
  have e2 := seg_get f (lo := 0) (hi := n) (i := q) (by omega)
  rw [List.getElem?_eq_getElem (by rw [seg_length]; omega), Nat.zero_add] at e1 e2
  rw [Option.some.inj e1, Option.some.inj e2] at h
  exact h

theorem leX_leB {x y : Nat} (h : leX key x y = true) : leB (key x) (key y) = true := by
  rcases leX_iff.1 h with h | ⟨h, _⟩
  · rw [leB_iff]; exact List.le_of_lt (ltB_iff.1 h)
  · rw [h]; exact leB_refl _

theorem leX_same {x y : Nat} (h : leX key x y = true) (e : key x = key y) : x ≤ y := by
  rcases leX_iff.1 h with h | ⟨_, h⟩
  · rw [e, ltB_not, leB_refl] at h; cases h
  · exact h

/-- The head of a run is the first place of its string. -/
theorem head_first (s : SortedSeg (leX key) id f 0 n) {q : Nat} (hq : q < n) : (q = 0 ∨ key (f (q - 1)) ≠ key (f q)) ↔ ∀ j, j < f q → key j ≠ key (f q) := by
  constructor
  · intro h j hj e
    obtain ⟨r, hr, hfr⟩ := idx_hit s (p := j) (by have := idx_lt s hq; omega)
    subst hfr
    rcases Nat.lt_trichotomy r q with hrq | hrq | hrq
    · rcases h with h | h
      · omega
      · apply h
        refine leB_antisymm (leX_leB (idx_le s (by omega) hq)) ?_
        rw [← e]
        by_cases e' : r = q - 1
        · rw [e']; exact leB_refl _
        · exact leX_leB (idx_le s (by omega) (by omega))
    · subst hrq; omega
    · have := leX_same (idx_le s hrq hr) e.symm
      omega
  · intro h
    by_cases h0 : q = 0
    · exact .inl h0
    · refine .inr fun e => ?_
      have h1 := leX_same (idx_le s (p := q - 1) (q := q) (by omega) hq) e
      have h2 : f (q - 1) ≠ f q := fun e' => by have := idx_inj s (by omega) hq e'; omega
      exact h (f (q - 1)) (by omega) e

end

/-- A row of bools. -/
def BRow (w : World) (b n : Nat) (f : Nat → Bool) : Prop := Row w b n 4 (fun j => .bool (f j))
theorem BRow.drewN {w : World} {b n : Nat} {f : Nat → Bool} (h : BRow w b n f) (m : Nat) : BRow (w.drewN m) b n f := Row.block h rfl

/-- The marks of the first places come back; nothing that was there has turned. -/
def RetsFirst (n : Nat) (key : Nat → ByteArray) (w : World) (e : Ending) (w' : World) : Prop :=
  ∃ b fst, e = .returned (.slice (some ⟨b, 0, none⟩) n n) ∧ BRow w' b n fst ∧ (∀ i, i < n → (fst i = true ↔ ∀ j, j < i → key j ≠ key i)) ∧ Below w.heap.size w w'

theorem Try.info3 : (Try.prog.info? 3).map (fun i => (i.zero, i.size, i.bytes)) = some (some (.int .i64 0), 1, 8) := by kernel_rfl
theorem Try.info4 : (Try.prog.info? 4).map (fun i => (i.zero, i.size, i.bytes)) = some (some (.bool false), 1, 1) := by kernel_rfl

theorem keys_of {w w' : World} {a : Option Addr} {n A B : Nat} {key : Nat → ByteArray} (h : Strs w a n key) (hb : Below w.heap.size w w') (hA : w.heap.size ≤ A) (hB : w.heap.size ≤ B) : Keys w' a n key A B := by
  rcases h with h | ⟨b, off, ha, hlt, hc, _⟩
  · exact .inl h
  · exact .inr ⟨b, off, ha, by omega, by omega, fun j hj => (hb.cell (p := ⟨b, off + j, none⟩) hlt).trans (hc j hj)⟩

/-- Behind k rounds the marks stand at the heads of the first k places' runs. -/
def Marked (key : Nat → ByteArray) (f : Nat → Nat) (n k : Nat) (fst : Nat → Bool) : Prop :=
  ∀ p, p < n → (fst p = true ↔ ∃ q, q < k ∧ f q = p ∧ (q = 0 ∨ key (f (q - 1)) ≠ key (f q)))

theorem Marked.hit {key : Nat → ByteArray} {f : Nat → Nat} {n k : Nat} {fst : Nat → Bool} (m : Marked key f n k fst) (h : k = 0 ∨ key (f (k - 1)) ≠ key (f k)) : Marked key f n (k + 1) (upd fst (f k) true) := by
  intro p hp
  by_cases e : p = f k
  · subst e
    rw [upd_same]
    exact ⟨fun _ => ⟨k, by omega, rfl, h⟩, fun _ => rfl⟩
  · rw [upd_other fst _ e, m p hp]
    constructor
    · rintro ⟨q, h1, h2⟩; exact ⟨q, by omega, h2⟩
    · rintro ⟨q, h1, h2, h3⟩
      by_cases hq : q = k
      · subst hq; exact absurd h2.symm e
      · exact ⟨q, by omega, h2, h3⟩

theorem Marked.miss {key : Nat → ByteArray} {f : Nat → Nat} {n k : Nat} {fst : Nat → Bool} (m : Marked key f n k fst) (h0 : k ≠ 0) (h : key (f (k - 1)) = key (f k)) : Marked key f n (k + 1) fst := by
  intro p hp
  rw [m p hp]
  constructor
  · rintro ⟨q, h1, h2⟩; exact ⟨q, by omega, h2⟩
  · rintro ⟨q, h1, h2, h3⟩
    by_cases hq : q = k
    · subst hq
      rcases h3 with h3 | h3
      · exact absurd h3 h0
      · exact absurd h h3
    · exact ⟨q, by omega, h2, h3⟩

theorem Marked.whole {key : Nat → ByteArray} {f : Nat → Nat} {n : Nat} {fst : Nat → Bool} (m : Marked key f n n fst) (s : SortedSeg (leX key) id f 0 n) : ∀ i, i < n → (fst i = true ↔ ∀ j, j < i → key j ≠ key i) := by
  intro i hi
  rw [m i hi]
  constructor
  · rintro ⟨q, h1, rfl, h3⟩
    exact (head_first s h1).1 h3
  · intro h
    obtain ⟨q, h1, rfl⟩ := idx_hit s hi
    exact ⟨q, h1, rfl, (head_first s h1).2 h⟩

set_option maxHeartbeats 2000000 in
set_option maxRecDepth 100000 in
theorem first_any (a : Option Addr) (len cap : Nat) (key : Nat → ByteArray) (w : World) (hm : len ≤ 1048576) (h : Strs w a len key) :
    Calls Try.prog 19 #[.slice a len cap] w (RetsFirst len key w) := by
  obtain ⟨i3, hi3, hz30, hz31, hz32⟩ := info_parts Try.info3
  obtain ⟨i4, hi4, hz40, hz41, hz42⟩ := info_parts Try.info4
  go_enter Try.func19, Try.ntmps19
  go_wp2_with (first
    | (at_make; refine wpList_make_row _ rfl _ _ 44 rfl 3 i3 (.int .i64 0) 8 Try.underlying44 hi3 hz30 hz31 hz32 rfl _ _ len rfl rfl rfl rfl (by omega) (by omega) ?_; intro w1 hrow hbel hsz)
    | go_in)
  go_loopw [5] (fun i wr => ∃ k : Nat, k ≤ len ∧ i = .int .i64 k ∧ ∃ g : Nat → Nat, IRow wr w.heap.size len g ∧ (∀ j, j < k → g j = j) ∧ Below w.heap.size w wr) (fun i _ => len - (intOf i).toNat)
  case atStart => exact ⟨0, Nat.zero_le _, rfl, fun _ => 0, hrow, fun j hj => by omega, hbel⟩
  case round =>
    obtain ⟨k, hk, rfl, g, hr, hg, hb⟩ := hrel
    clear hrow hbel hsz
    have HG : Hid (∀ j, j < k → g j = j) := hg
    clear hg
    by_cases hlt : k < len
    · have hfz : wr.frozen? ⟨w.heap.size, k, none⟩ = false := Row.frozen hr k
      have hcl : wr.cell? ⟨w.heap.size, k, none⟩ = some (.int .i64 (g k : Int)) := Row.cell hr hlt
      go_wp2
      go_roundw
      case rel =>
        refine ⟨k + 1, by omega, by go_num, upd g k k, hr.set k k, fun j hj => ?_, hb.setCell (Nat.le_refl _) _⟩
        by_cases e : j = k
        · rw [e, upd_same]
        · rw [upd_other g _ e]; exact HG.out j (by omega)
      case measure => simp [intOf]; omega
    · have hwlt := Row.lt hr
      have hrI : IRow wr w.heap.size len id := Row.congr hr fun j hj => by rw [HG.out j (by omega)]; rfl
      clear hr HG
      go_wp2_with (first
        | (at_make; refine wpList_make_row _ rfl _ _ 44 rfl 3 i3 (.int .i64 0) 8 Try.underlying44 hi3 hz30 hz31 hz32 rfl _ _ len rfl rfl rfl rfl (by omega) (by omega) ?_; intro w2 hrow2 hbel2 hsz2)
        | fail)
      have hb2 : Below w.heap.size w w2 := hb.trans (hbel2.mono (Nat.le_of_lt hwlt))
      refine (sortIdx_any len key a cap w.heap.size wr.heap.size len 0 len id (fun _ => 0) w2 (by omega) (by omega) (Nat.le_refl _) hm (by omega) (keys_of h hb2 (Nat.le_refl _) (by omega)) (Row.below hrI hbel2 hwlt) hrow2 (fun _ h => h) (fun p q _ h _ => h)).mono ?_
      rintro e w3 ⟨rfl, f', h', rA, rB, srt, kp⟩
      have hb3 : Below w.heap.size w w3 := hb2.trans (kp.below (Nat.le_refl _) (by omega))
      have hle3 : w.heap.size < w3.heap.size := by have := kp.size; omega
      clear hrI hrow2 kp rB hsz2
      go_wp2_with (first
        | (at_make; refine wpList_make_row _ rfl _ _ 27 rfl 4 i4 (.bool false) 1 Try.underlying27 hi4 hz40 hz41 hz42 rfl _ _ len rfl rfl rfl rfl (by omega) (by omega) ?_; intro w4 hrow4 hbel4 hsz4)
        | go_in)
      have rA4 : IRow w4 w.heap.size len f' := Row.below rA hbel4 (Row.lt rA)
      have hb4 : Below w.heap.size w w4 := hb3.trans (hbel4.mono (by omega))
      have SRT : Hid (SortedSeg (leX key) id f' 0 len) := srt
      clear rA hb2 hb3 srt hbel2 hbel4 hb
      go_loopw [8] (fun i wx => ∃ k : Nat, k ≤ len ∧ i = .int .i64 k ∧ ∃ fst : Nat → Bool, BRow wx w3.heap.size len fst ∧ Marked key f' len k fst ∧ IRow wx w.heap.size len f' ∧ Below w.heap.size w wx) (fun i _ => len - (intOf i).toNat)
      case atStart => exact ⟨0, Nat.zero_le _, rfl, fun _ => false, hrow4, fun p hp => ⟨fun h => (by simp at h), fun ⟨q, hq, _⟩ => by omega⟩, rA4, hb4⟩
      case round =>
        obtain ⟨k', hk', rfl, fst, rF, mk, rA, hb⟩ := hrel
        have MK : Hid (Marked key f' len k' fst) := mk
        clear mk hrow4 rA4 hb4 hsz4
        by_cases hlt' : k' < len
        · obtain ⟨kb, ko, hak, hkb, hck⟩ : ∃ kb ko, a = some ⟨kb, ko, none⟩ ∧ kb < w.heap.size ∧ Hid (∀ j, j < len → wr.cell? ⟨kb, ko + j, none⟩ = some (.string (key j))) := by
            rcases h with h | ⟨b, off, ha, hb0, hc, _⟩
            · omega
            · exact ⟨b, off, ha, hb0, fun j hj => (hb.cell (p := ⟨b, off + j, none⟩) hb0).trans (hc j hj)⟩
          subst hak
          have cK : wr.cell? ⟨w.heap.size, k', none⟩ = some (.int .i64 (f' k' : Int)) := Row.cell rA hlt'
          have bK : f' k' < len := idx_lt SRT.out hlt'
          have cF : wr.cell? ⟨w3.heap.size, f' k', none⟩ = some (.bool (fst (f' k'))) := Row.cell rF bK
          have fF : wr.frozen? ⟨w3.heap.size, f' k', none⟩ = false := Row.frozen rF _
          by_cases hk0 : k' = 0
          · subst hk0
            go_wp2
            go_quiet (fail)
            go_wp2
            go_roundw
            case rel => exact ⟨0 + 1, by omega, by go_num, upd fst (f' 0) true, Row.setf (BRow.drewN rF _) (f' 0) true, MK.out.hit (.inl rfl), Row.other (IRow.drewN rA _) (by exact Nat.ne_of_lt hle3) _, (Below.drewN' hb _).setCell (Nat.le_of_lt hle3) _⟩
            case measure => simp [intOf]; omega
          · obtain ⟨m, rfl⟩ : ∃ m, k' = m + 1 := ⟨k' - 1, by omega⟩
            have d0 : (((m + 1 : Nat) : Int) == 0) = false := beq_eq_false_iff_ne.2 (by omega)
            have d0' : ((m : Int) + 1 == 0) = false := beq_eq_false_iff_ne.2 (by omega)
            have cM : wr.cell? ⟨w.heap.size, m, none⟩ = some (.int .i64 (f' m : Int)) := Row.cell rA (by omega)
            have bM : f' m < len := idx_lt SRT.out (by omega)
            have kM := hck.out (f' m) bM
            have kK := hck.out (f' (m + 1)) bK
            cases he : ((key (f' m)).toList == (key (f' (m + 1))).toList) with
            | true =>
              go_wp2
              go_quiet (fail)
              go_wp2
              go_roundw
              case rel => exact ⟨m + 1 + 1, by omega, by go_num, fst, BRow.drewN rF _, MK.out.miss (by omega) (eq_of_lists he).symm, IRow.drewN rA _, Below.drewN' hb _⟩
              case measure => simp [intOf]; omega
            | false =>
              go_wp2
              go_quiet (fail)
              go_wp2
              go_roundw
              case rel => exact ⟨m + 1 + 1, by omega, by go_num, upd fst (f' (m + 1)) true, Row.setf (BRow.drewN rF _) (f' (m + 1)) true, MK.out.hit (.inr fun e => (ne_of_lists he) e.symm), Row.other (IRow.drewN rA _) (by exact Nat.ne_of_lt hle3) _, (Below.drewN' hb _).setCell (Nat.le_of_lt hle3) _⟩
              case measure => simp [intOf]; omega
        · have hkn : k' = len := by omega
          subst hkn
          go_wp2
          go_ret
          exact ⟨_, fst, rfl, rF, MK.out.whole SRT.out, hb⟩

end Go.Proofs.Qxb6603406a
