/-
  Seat b6603406a: the byte counter of one list, a second time (the law on add).
-/
import Derived.Test.Qxb6603406aBase
namespace Go.Proofs.Qxb6603406a
open Go.ChangeShapes Go.WideShapes Go.ChangeAt Go.RowKit

set_option maxHeartbeats 400000 in
set_option maxRecDepth 100000 in
theorem zzAddBytes_any (a : Option Addr) (len cap : Nat) (f : Nat → ByteArray) (w : World) (hm : len ≤ maxLen) (h : Strs w a len f) :
    Calls Try.prog 18 #[.slice a len cap] w (RetsB w) := by
  unfold maxLen at hm
  by_cases hbig : 1048576 < len
  · go_enter Try.func18, Try.ntmps18
    go_wp2
    go_ret
    exact RetsB.mk _ _
  · go_enter Try.func18, Try.ntmps18
    go_wp2
    go_loop [3, 4] (fun z i => ∃ k : Nat, k ≤ len ∧ i = .int .i64 k ∧ ∃ n : Int, 0 ≤ n ∧ n ≤ 1048576 ∧ z = .int .i64 n) (fun _ i => len - (intOf i).toNat)
    case atStart => exact ⟨0, Nat.zero_le _, rfl, len, by omega, by omega, rfl⟩
    case round =>
      obtain ⟨k, hk, rfl, n, hn0, hn1, rfl⟩ := hrel
      by_cases hlt : k < len
      · rcases h with h | ⟨b, off, rfl, hb, hc, hs⟩
        · omega
        · have hck := hc k hlt
          have hsk := hs k hlt
          unfold maxLen at hsk
          clear hc hs
          go_wp2
          · go_ret
            exact RetsB.mk _ _
          · go_ret
            exact RetsB.mk _ _
          · go_round
            case rel => exact ⟨k + 1, by omega, by go_num, n + (f k).size, by omega, by omega, rfl⟩
            case measure => simp [intOf]; omega
      · go_wp2
        go_ret
        exact RetsB.mk _ _

end Go.Proofs.Qxb6603406a
