/-
  Seat b6603406a: the byte counter of the law on Conflicts: it answers some bool; the world stands.
-/
import Derived.Test.Qxb6603406aBase
namespace Go.Proofs.Qxb6603406a
open Go.ChangeShapes Go.WideShapes Go.ChangeAt Go.RowKit

set_option maxHeartbeats 4000000 in
set_option maxRecDepth 100000 in
theorem zzConf_any (t1 : ByteArray) (a1 : Option Addr) (l1 c1 : Nat) (f1 : Nat → ByteArray) (a2 : Option Addr) (l2 c2 : Nat) (f2 : Nat → ByteArray)
    (t2 : ByteArray) (a3 : Option Addr) (l3 c3 : Nat) (f3 : Nat → ByteArray) (a4 : Option Addr) (l4 c4 : Nat) (f4 : Nat → ByteArray) (w : World)
    (z1 : t1.size ≤ maxLen) (z2 : t2.size ≤ maxLen) (m1 : l1 ≤ maxLen) (m2 : l2 ≤ maxLen) (m3 : l3 ≤ maxLen) (m4 : l4 ≤ maxLen) (s1 : Strs w a1 l1 f1) (s2 : Strs w a2 l2 f2) (s3 : Strs w a3 l3 f3) (s4 : Strs w a4 l4 f4) :
    Calls Try.prog 25 #[.string t1, .slice a1 l1 c1, .slice a2 l2 c2, .string t2, .slice a3 l3 c3, .slice a4 l4 c4] w (RetsB w) := by
  unfold maxLen at z1 z2 m1 m2 m3 m4
  by_cases ht1 : (1048576 : Int) < (t1.size : Int)
  · go_enter Try.func25, Try.ntmps25
    go_wp2
    go_ret
    exact RetsB.mk _ _
  · have dht1 : decide ((1048576 : Int) < (t1.size : Int)) = false := decide_eq_false ht1
    by_cases hl1 : (1048576 : Int) < (l1 : Int)
    · go_enter Try.func25, Try.ntmps25
      go_wp2
      go_ret
      exact RetsB.mk _ _
    · have dhl1 : decide ((1048576 : Int) < (l1 : Int)) = false := decide_eq_false hl1
      by_cases hn1 : (1048576 : Int) < (t1.size : Int) + (l1 : Int)
      · go_enter Try.func25, Try.ntmps25
        go_wp2
        go_ret
        exact RetsB.mk _ _
      · have dhn1 : decide ((1048576 : Int) < (t1.size : Int) + (l1 : Int)) = false := decide_eq_false hn1
        go_enter Try.func25, Try.ntmps25
        go_wp2
        go_loop [13, 14] (fun z i => ∃ k : Nat, k ≤ l1 ∧ i = .int .i64 k ∧ ∃ n : Int, 0 ≤ n ∧ n ≤ 1048576 ∧ z = .int .i64 n) (fun _ i => l1 - (intOf i).toNat)
        case atStart => exact ⟨0, Nat.zero_le _, rfl, _, by omega, by omega, rfl⟩
        case round =>
          obtain ⟨k1, hk1, rfl, n1, hz1, hy1, rfl⟩ := hrel
          by_cases hlt1 : k1 < l1
          · rcases s1 with s1 | ⟨b, off, rfl, hb, hc, hs⟩
            · omega
            · have hck := hc k1 hlt1
              have hsk := hs k1 hlt1
              unfold maxLen at hsk
              clear hc hs
              go_wp2
              · go_ret
                exact RetsB.mk _ _
              · go_ret
                exact RetsB.mk _ _
              · go_round
                case rel => exact ⟨k1 + 1, by omega, by go_num, n1 + (f1 k1).size, by omega, by omega, rfl⟩
                case measure => simp [intOf]; omega
          · skip
            by_cases hl2 : (1048576 : Int) < (l2 : Int)
            · go_wp2
              go_ret
              exact RetsB.mk _ _
            · have dhl2 : decide ((1048576 : Int) < (l2 : Int)) = false := decide_eq_false hl2
              by_cases hn2 : (1048576 : Int) < n1 + (l2 : Int)
              · go_wp2
                go_ret
                exact RetsB.mk _ _
              · have dhn2 : decide ((1048576 : Int) < n1 + (l2 : Int)) = false := decide_eq_false hn2
                go_wp2
                go_loop [13, 15] (fun z i => ∃ k : Nat, k ≤ l2 ∧ i = .int .i64 k ∧ ∃ n : Int, 0 ≤ n ∧ n ≤ 1048576 ∧ z = .int .i64 n) (fun _ i => l2 - (intOf i).toNat)
                case atStart => exact ⟨0, Nat.zero_le _, rfl, _, by omega, by omega, rfl⟩
                case round =>
                  obtain ⟨k2, hk2, rfl, n2, hz2, hy2, rfl⟩ := hrel
                  by_cases hlt2 : k2 < l2
                  · rcases s2 with s2 | ⟨b, off, rfl, hb, hc, hs⟩
                    · omega
                    · have hck := hc k2 hlt2
                      have hsk := hs k2 hlt2
                      unfold maxLen at hsk
                      clear hc hs
                      go_wp2
                      · go_ret
                        exact RetsB.mk _ _
                      · go_ret
                        exact RetsB.mk _ _
                      · go_round
                        case rel => exact ⟨k2 + 1, by omega, by go_num, n2 + (f2 k2).size, by omega, by omega, rfl⟩
                        case measure => simp [intOf]; omega
                  · skip
                    by_cases ht2 : (1048576 : Int) < (t2.size : Int)
                    · go_wp2
                      go_ret
                      exact RetsB.mk _ _
                    · have dht2 : decide ((1048576 : Int) < (t2.size : Int)) = false := decide_eq_false ht2
                      by_cases hq2 : (1048576 : Int) < n2 + (t2.size : Int)
                      · go_wp2
                        go_ret
                        exact RetsB.mk _ _
                      · have dhq2 : decide ((1048576 : Int) < n2 + (t2.size : Int)) = false := decide_eq_false hq2
                        by_cases hl3 : (1048576 : Int) < (l3 : Int)
                        · go_wp2
                          go_ret
                          exact RetsB.mk _ _
                        · have dhl3 : decide ((1048576 : Int) < (l3 : Int)) = false := decide_eq_false hl3
                          by_cases hn3 : (1048576 : Int) < n2 + (t2.size : Int) + (l3 : Int)
                          · go_wp2
                            go_ret
                            exact RetsB.mk _ _
                          · have dhn3 : decide ((1048576 : Int) < n2 + (t2.size : Int) + (l3 : Int)) = false := decide_eq_false hn3
                            go_wp2
                            go_loop [13, 16] (fun z i => ∃ k : Nat, k ≤ l3 ∧ i = .int .i64 k ∧ ∃ n : Int, 0 ≤ n ∧ n ≤ 1048576 ∧ z = .int .i64 n) (fun _ i => l3 - (intOf i).toNat)
                            case atStart => exact ⟨0, Nat.zero_le _, rfl, _, by omega, by omega, rfl⟩
                            case round =>
                              obtain ⟨k3, hk3, rfl, n3, hz3, hy3, rfl⟩ := hrel
                              by_cases hlt3 : k3 < l3
                              · rcases s3 with s3 | ⟨b, off, rfl, hb, hc, hs⟩
                                · omega
                                · have hck := hc k3 hlt3
                                  have hsk := hs k3 hlt3
                                  unfold maxLen at hsk
                                  clear hc hs
                                  go_wp2
                                  · go_ret
                                    exact RetsB.mk _ _
                                  · go_ret
                                    exact RetsB.mk _ _
                                  · go_round
                                    case rel => exact ⟨k3 + 1, by omega, by go_num, n3 + (f3 k3).size, by omega, by omega, rfl⟩
                                    case measure => simp [intOf]; omega
                              · skip
                                by_cases hl4 : (1048576 : Int) < (l4 : Int)
                                · go_wp2
                                  go_ret
                                  exact RetsB.mk _ _
                                · have dhl4 : decide ((1048576 : Int) < (l4 : Int)) = false := decide_eq_false hl4
                                  by_cases hn4 : (1048576 : Int) < n3 + (l4 : Int)
                                  · go_wp2
                                    go_ret
                                    exact RetsB.mk _ _
                                  · have dhn4 : decide ((1048576 : Int) < n3 + (l4 : Int)) = false := decide_eq_false hn4
                                    go_wp2
                                    go_loop [13, 17] (fun z i => ∃ k : Nat, k ≤ l4 ∧ i = .int .i64 k ∧ ∃ n : Int, 0 ≤ n ∧ n ≤ 1048576 ∧ z = .int .i64 n) (fun _ i => l4 - (intOf i).toNat)
                                    case atStart => exact ⟨0, Nat.zero_le _, rfl, _, by omega, by omega, rfl⟩
                                    case round =>
                                      obtain ⟨k4, hk4, rfl, n4, hz4, hy4, rfl⟩ := hrel
                                      by_cases hlt4 : k4 < l4
                                      · rcases s4 with s4 | ⟨b, off, rfl, hb, hc, hs⟩
                                        · omega
                                        · have hck := hc k4 hlt4
                                          have hsk := hs k4 hlt4
                                          unfold maxLen at hsk
                                          clear hc hs
                                          go_wp2
                                          · go_ret
                                            exact RetsB.mk _ _
                                          · go_ret
                                            exact RetsB.mk _ _
                                          · go_round
                                            case rel => exact ⟨k4 + 1, by omega, by go_num, n4 + (f4 k4).size, by omega, by omega, rfl⟩
                                            case measure => simp [intOf]; omega
                                      · go_wp2
                                        go_ret
                                        exact RetsB.mk _ _

end Go.Proofs.Qxb6603406a
