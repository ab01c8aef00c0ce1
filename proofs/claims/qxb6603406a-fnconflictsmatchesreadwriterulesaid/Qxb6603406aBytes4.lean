/-
  Seat b6603406a: the byte counters of two elements.
-/
import Derived.Test.Qxb6603406aBase
namespace Go.Proofs.Qxb6603406a
open Go.ChangeShapes Go.WideShapes Go.ChangeAt Go.RowKit

/-- It returns some count: below nought, or at most the limit; the world stands. -/
def RetsT (t : Int) (w : World) (e : Ending) (w' : World) : Prop := ∃ n : Int, e = .returned (.int .i64 n) ∧ (-1 ≤ n ∧ n ≤ 1048576 ∧ (0 ≤ n → 0 ≤ t)) ∧ w' = w
theorem RetsT.mk (t : Int) (w : World) (n : Int) (h : -1 ≤ n ∧ n ≤ 1048576 ∧ (0 ≤ n → 0 ≤ t)) : RetsT t w (.returned (.int .i64 n)) w := ⟨n, rfl, h, rfl⟩

set_option maxHeartbeats 400000 in
theorem addText_any (t : Int) (s : ByteArray) (w : World) (ht : -1 ≤ t ∧ t ≤ 1048576) (hs : s.size ≤ maxLen) :
    Calls Try.prog 30 #[.int .i64 t, .string s] w (RetsT t w) := by
  unfold maxLen at hs
  obtain ⟨ht1, ht2⟩ := ht
  by_cases h1 : t < 0
  · go_enter Try.func30, Try.ntmps30
    go_wp2
    go_ret
    exact RetsT.mk _ _ _ (by omega)
  by_cases h2 : 1048576 - t < s.size
  · go_enter Try.func30, Try.ntmps30
    go_wp2
    go_ret
    exact RetsT.mk _ _ _ (by omega)
  · go_enter Try.func30, Try.ntmps30
    go_wp2
    go_ret
    exact RetsT.mk _ _ _ (by omega)

/-- Some count comes back; where it is not below nought each of the four lists is short. -/
def RetsE (a b c d : Nat) (w : World) (e : Ending) (w' : World) : Prop := ∃ n : Int, e = .returned (.int .i64 n) ∧ (0 ≤ n → a ≤ 65536 ∧ b ≤ 65536 ∧ c ≤ 65536 ∧ d ≤ 65536) ∧ w' = w

set_option maxHeartbeats 1000000 in
set_option maxRecDepth 100000 in
theorem elementBytes_any (t1 : ByteArray) (a1 : Option Addr) (l1 c1 : Nat) (f1 : Nat → ByteArray) (a2 : Option Addr) (l2 c2 : Nat) (f2 : Nat → ByteArray)
    (t2 : ByteArray) (a3 : Option Addr) (l3 c3 : Nat) (f3 : Nat → ByteArray) (a4 : Option Addr) (l4 c4 : Nat) (f4 : Nat → ByteArray) (w : World)
    (z1 : t1.size ≤ maxLen) (z2 : t2.size ≤ maxLen) (m1 : l1 ≤ maxLen) (m2 : l2 ≤ maxLen) (m3 : l3 ≤ maxLen) (m4 : l4 ≤ maxLen) (s1 : Strs w a1 l1 f1) (s2 : Strs w a2 l2 f2) (s3 : Strs w a3 l3 f3) (s4 : Strs w a4 l4 f4) :
    Calls Try.prog 26 #[.string t1, .slice a1 l1 c1, .slice a2 l2 c2, .string t2, .slice a3 l3 c3, .slice a4 l4 c4] w (RetsE l1 l2 l3 l4 w) := by
  go_enter Try.func26, Try.ntmps26
  go_wp2_with fail
  refine (addText_any 0 t1 _ (by omega) z1).mono ?_
  rintro e w' ⟨n1, rfl, ⟨p1, q1, k1⟩, hw⟩
  subst hw
  go_wp2_with fail
  refine (addText_any n1 t2 _ (by omega) z2).mono ?_
  rintro e w' ⟨n2, rfl, ⟨p2, q2, k2⟩, hw⟩
  subst hw
  go_wp2_with fail
  refine (addBytes_any n2 a1 l1 c1 f1 _ (by omega) m1 s1).mono ?_
  rintro e w' ⟨n3, rfl, ⟨p3, q3, k3⟩, hw⟩
  subst hw
  go_wp2_with fail
  refine (addBytes_any n3 a2 l2 c2 f2 _ (by omega) m2 s2).mono ?_
  rintro e w' ⟨n4, rfl, ⟨p4, q4, k4⟩, hw⟩
  subst hw
  go_wp2_with fail
  refine (addBytes_any n4 a3 l3 c3 f3 _ (by omega) m3 s3).mono ?_
  rintro e w' ⟨n5, rfl, ⟨p5, q5, k5⟩, hw⟩
  subst hw
  go_wp2_with fail
  refine (addBytes_any n5 a4 l4 c4 f4 _ (by omega) m4 s4).mono ?_
  rintro e w' ⟨n6, rfl, ⟨p6, q6, k6⟩, hw⟩
  subst hw
  go_wp2
  go_ret
  refine ⟨n6, rfl, fun h => ?_, rfl⟩
  obtain ⟨h5, e4⟩ := k6 h
  obtain ⟨h4, e3⟩ := k5 h5
  obtain ⟨h3, e2⟩ := k4 h4
  obtain ⟨h2, e1⟩ := k3 h3
  exact ⟨e1, e2, e3, e4⟩

end Go.Proofs.Qxb6603406a
