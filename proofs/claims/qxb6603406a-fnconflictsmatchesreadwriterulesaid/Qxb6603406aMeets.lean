/-
  Seat b6603406a: meets answers whether two lists share a string.
-/
import Derived.Test.Qxb6603406aSort
import Derived.Test.Qxb6603406aHolds
namespace Go.Proofs.Qxb6603406a
open Go.ChangeShapes Go.WideShapes Go.ChangeAt Go.RowKit

theorem Below.drewN' {B : Nat} {a w : World} (h : Below B a w) (n : Nat) : Below B a (w.drewN n) := h.trans ⟨rfl, rfl, rfl, Nat.le_refl _, fun _ _ => rfl⟩

set_option maxHeartbeats 1000000 in
set_option maxRecDepth 100000 in
theorem meets_any (a : Option Addr) (la ca : Nat) (f : Nat → ByteArray) (b : Option Addr) (lb cb : Nat) (g : Nat → ByteArray) (w : World) (hla : la ≤ 1048576) (hlb : lb ≤ 1048576)
    (ha : Strs w a la f) (hb : Strs w b lb g) : Calls Try.prog 15 #[.slice a la ca, .slice b lb cb] w (RetsG (Meet f la g lb) w) := by
  go_enter Try.func15, Try.ntmps15
  go_wp2_with fail
  refine (sortedCopy_any a la ca f w hla ha).mono ?_
  rintro e w1 ⟨ba, fa, rfl, rA1, sA, b1⟩
  have hb1 := hb.below b1
  go_wp2_with fail
  refine (sortedCopy_any b lb cb g w1 hlb hb1).mono ?_
  rintro e w2 ⟨bb, gb, rfl, rB, sB, b2⟩
  have rA : SRow w2 ba la fa := Row.below rA1 b2 (Row.lt rA1)
  have b12 : Below w.heap.size w w2 := b1.trans (b2.mono b1.size)
  have RFA : Hid (Rises fa la) := sA.rises
  have RGB : Hid (Rises gb lb) := sB.rises
  have HM : Hid (Meet fa la gb lb ↔ Meet f la g lb) := meet_sorted sA sB
  clear ha hb hb1 rA1 sA sB b1 b2
  go_wp2
  go_loopw [7, 8] (fun vi vj wr => ∃ i j : Nat, vi = .int .i64 i ∧ vj = .int .i64 j ∧ i ≤ la ∧ j ≤ lb ∧ Ahead fa la gb lb i j ∧ SRow wr ba la fa ∧ SRow wr bb lb gb ∧ Below w.heap.size w wr) (fun vi vj _ => (la - (intOf vi).toNat) + (lb - (intOf vj).toNat))
  case atStart => exact ⟨0, 0, rfl, rfl, Nat.zero_le _, Nat.zero_le _, Ahead.start _ _ _ _, rA, rB, b12⟩
  case round =>
    obtain ⟨i, j, rfl, rfl, hi, hj, hah, rA', rB', bl⟩ := hrel
    have HAH : Hid (Ahead fa la gb lb i j) := hah
    clear hah rA rB b12
    by_cases hi' : i < la
    · by_cases hj' : j < lb
      · have cI : wr.cell? ⟨ba, i, none⟩ = some (.string (fa i)) := Row.cell rA' hi'
        have cJ : wr.cell? ⟨bb, j, none⟩ = some (.string (gb j)) := Row.cell rB' hj'
        cases he : ((fa i).toList == (gb j).toList) with
        | true =>
          go_wp2
          go_quiet (fail)
          go_wp2
          go_ret
          exact RetsG.mk _ ⟨fun _ => HM.out.1 ⟨i, j, hi', hj', (eq_of_lists he).symm⟩, fun _ => rfl⟩ (Below.drewN' bl _)
        | false =>
          cases hl : Op.bytesLess (fa i).toList (gb j).toList with
          | true =>
            go_wp2
            go_quiet (fail)
            go_wp2
            go_quiet (fail)
            go_wp2
            go_roundw
            case rel => exact ⟨i + 1, j, by go_num, rfl, by omega, by omega, HAH.out.left RGB.out hl, SRow.drewN rA' _, SRow.drewN rB' _, Below.drewN' bl _⟩
            case measure => simp [intOf]; omega
          | false =>
            have hne : fa i ≠ gb j := fun e => (ne_of_lists he) e.symm
            go_wp2
            go_quiet (fail)
            go_wp2
            go_quiet (fail)
            go_wp2
            go_roundw
            case rel => exact ⟨i, j + 1, rfl, by go_num, by omega, by omega, HAH.out.right RFA.out hne hl, SRow.drewN rA' _, SRow.drewN rB' _, Below.drewN' bl _⟩
            case measure => simp [intOf]; omega
      · go_wp2
        go_ret
        exact RetsG.mk _ ⟨fun h => (by simp at h), fun h => absurd (HM.out.2 h) (HAH.out.stop (by omega))⟩ bl
    · go_wp2
      go_ret
      exact RetsG.mk _ ⟨fun h => (by simp at h), fun h => absurd (HM.out.2 h) (HAH.out.stop (by omega))⟩ bl

end Go.Proofs.Qxb6603406a
