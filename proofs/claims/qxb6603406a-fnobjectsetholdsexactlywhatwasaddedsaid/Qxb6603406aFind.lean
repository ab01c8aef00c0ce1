/-
  Seat b6603406a: containsSorted: halving in a rising list.
-/
import Derived.Test.Qxb6603406aSort
namespace Go.Proofs.Qxb6603406a
open Go.ChangeShapes Go.WideShapes Go.ChangeAt Go.RowKit

set_option maxHeartbeats 1000000 in
set_option maxRecDepth 100000 in
theorem contains_sorted (b n : Nat) (f : Nat → ByteArray) (x : ByteArray) (w : World) (hn : n ≤ 1048576) (hr : SRow w b n f) (hf : Rises f n) :
    Calls Try.prog 24 #[.slice (some ⟨b, 0, none⟩) n n, .string x] w (RetsP (Among f n x) w) := by
  have HF : Hid (Rises f n) := hf
  clear hf
  go_enter Try.func24, Try.ntmps24
  go_wp2
  go_loop [5, 6] (fun vl vh => ∃ lo hi : Nat, lo ≤ hi ∧ hi ≤ n ∧ vl = .int .i64 lo ∧ vh = .int .i64 hi ∧ Halved f n x lo hi) (fun vl vh => (intOf vh).toNat - (intOf vl).toNat)
  case atStart => exact ⟨0, n, Nat.zero_le _, Nat.le_refl _, rfl, rfl, fun p hp => by omega, fun p h1 h2 => by omega⟩
  case round =>
    obtain ⟨lo, hi, h1, h2, rfl, rfl, hh⟩ := hrel
    have HH : Hid (Halved f n x lo hi) := hh
    clear hh
    by_cases hlt : lo < hi
    · obtain ⟨mid, hm⟩ : ∃ mid : Nat, mid = lo + (hi - lo) / 2 := ⟨_, rfl⟩
      have hm1 : lo ≤ mid := by omega
      have hm2 : mid < hi := by omega
      have hmi : (lo : Int) + ((hi : Int) - lo) / 2 = mid := by omega
      clear hm
      have cM : w.cell? ⟨b, mid, none⟩ = some (.string (f mid)) := Row.cell hr (by omega)
      cases hl : Op.bytesLess (f mid).toList x.toList with
      | true =>
        go_wp2
        go_round
        case rel => exact ⟨mid + 1, hi, by omega, h2, by go_num, rfl, HH.out.up HF.out (by omega) hl⟩
        case measure => simp [intOf]; omega
      | false =>
        go_wp2
        go_round
        case rel => exact ⟨lo, mid, by omega, by omega, rfl, rfl, HH.out.down HF.out hl⟩
        case measure => simp [intOf]; omega
    · have hfd : Hid (Among f n x ↔ lo < n ∧ f lo = x) := HH.out.found HF.out (by omega)
      by_cases hn' : lo < n
      · have cL : w.cell? ⟨b, lo, none⟩ = some (.string (f lo)) := Row.cell hr hn'
        go_wp2
        go_ret
        refine RetsP.mk _ _ (Iff.trans ?_ hfd.out.symm)
        constructor
        · intro h
          exact ⟨hn', (eq_of_lists h).symm⟩
        · rintro ⟨_, h⟩
          rw [h]
          simp
      · go_wp2
        go_ret
        exact RetsP.mk _ _ ⟨fun h => (by simp at h), fun h => absurd (hfd.out.1 h).1 hn'⟩

end Go.Proofs.Qxb6603406a
