/-
  Seat b6603406a: the byte counter of two lists, a second time (the law on holds).
-/
import Derived.Test.Qxb6603406aBase
namespace Go.Proofs.Qxb6603406a
open Go.ChangeShapes Go.WideShapes Go.ChangeAt Go.RowKit

set_option maxHeartbeats 1000000 in
set_option maxRecDepth 100000 in
theorem zzHoldsBytes_any (a : Option Addr) (len cap : Nat) (f : Nat → ByteArray) (a2 : Option Addr) (len2 cap2 : Nat) (f2 : Nat → ByteArray) (w : World) (hm : len ≤ maxLen) (h : Strs w a len f) (hm2 : len2 ≤ maxLen) (h2 : Strs w a2 len2 f2) :
    Calls Try.prog 21 #[.slice a len cap, .slice a2 len2 cap2] w (RetsB w) := by
  unfold maxLen at hm hm2
  by_cases hbig : 1048576 < len
  · go_enter Try.func21, Try.ntmps21
    go_wp2
    go_ret
    exact RetsB.mk _ _
  · have d1 : decide (1048576 < (len : Int)) = false := decide_eq_false (by omega)
    go_enter Try.func21, Try.ntmps21
    go_wp2
    go_loop [5, 6] (fun z i => ∃ k : Nat, k ≤ len ∧ i = .int .i64 k ∧ ∃ n : Int, 0 ≤ n ∧ n ≤ 1048576 ∧ z = .int .i64 n) (fun _ i => len - (intOf i).toNat)
    case atStart => exact ⟨0, Nat.zero_le _, rfl, len, by omega, by omega, rfl⟩
    case round =>
      obtain ⟨k, hk, rfl, n, hn0, hn1, rfl⟩ := hrel
      by_cases hlt : k < len
      · rcases h with h | ⟨b, off, rfl, hb, hc, hs⟩
        · omega
        · have hck := hc k hlt
          have hsk := hs k hlt
          unfold maxLen at hsk
          clear hc hs
          go_wp2
          · go_ret
            exact RetsB.mk _ _
          · go_ret
            exact RetsB.mk _ _
          · go_round
            case rel => exact ⟨k + 1, by omega, by go_num, n + (f k).size, by omega, by omega, rfl⟩
            case measure => simp [intOf]; omega
      · by_cases hbig2 : 1048576 < len2
        · go_wp2
          go_ret
          exact RetsB.mk _ _
        · by_cases hbig3 : 1048576 < n + len2
          · go_wp2
            go_ret
            exact RetsB.mk _ _
          · have d2 : decide (1048576 < (len2 : Int)) = false := decide_eq_false (by omega)
            have d3 : decide (1048576 < n + (len2 : Int)) = false := decide_eq_false (by omega)
            go_wp2
            go_loop [5, 7] (fun z i => ∃ k : Nat, k ≤ len2 ∧ i = .int .i64 k ∧ ∃ n : Int, 0 ≤ n ∧ n ≤ 1048576 ∧ z = .int .i64 n) (fun _ i => len2 - (intOf i).toNat)
            case atStart => exact ⟨0, Nat.zero_le _, rfl, n + len2, by omega, by omega, rfl⟩
            case round =>
              obtain ⟨k', hk', rfl, n', hn0', hn1', rfl⟩ := hrel
              by_cases hlt' : k' < len2
              · rcases h2 with h2 | ⟨b, off, rfl, hb, hc, hs⟩
                · omega
                · have hck := hc k' hlt'
                  have hsk := hs k' hlt'
                  unfold maxLen at hsk
                  clear hc hs
                  go_wp2
                  · go_ret
                    exact RetsB.mk _ _
                  · go_ret
                    exact RetsB.mk _ _
                  · go_round
                    case rel => exact ⟨k' + 1, by omega, by go_num, n' + (f2 k').size, by omega, by omega, rfl⟩
                    case measure => simp [intOf]; omega
              · go_wp2
                go_ret
                exact RetsB.mk _ _

end Go.Proofs.Qxb6603406a
