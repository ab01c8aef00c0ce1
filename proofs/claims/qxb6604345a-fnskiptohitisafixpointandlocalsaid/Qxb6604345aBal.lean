/-
  Seat b6604345a: the law's scan for balance.
-/
import Derived.Test.Qxb6604345aWalks
namespace Go.Proofs.Qxb6604345a
open Go.ChangeShapes Go.WideShapes Go.ChangeAt Go.RowKit

theorem Strs.shorter {w : World} {a : Option Addr} {len m : Nat} {f : Nat → ByteArray} (h : Strs w a len f) (hm : m ≤ len) : Strs w a m f := by
  rcases h with h | ⟨b, off, ha, hb, hc, hs⟩
  · exact .inl (by omega)
  · exact .inr ⟨b, off, ha, hb, fun j hj => hc j (by omega), fun j hj => hs j (by omega)⟩

set_option maxHeartbeats 2000000 in
set_option maxRecDepth 100000 in
theorem balanced_any (a : Option Addr) (n cap : Nat) (f : Nat → ByteArray) (i r : Nat) (w : World) (hn : n ≤ 65536) (h : Strs w a n f) (hir : i ≤ r) (hrn : r ≤ n) (hnn : ∀ k, i ≤ k → k ≤ r → 0 ≤ D f i k) (hz : D f i r = 0) :
    Calls Try.prog 13 #[.slice a n cap, .int .i64 i, .int .i64 r] w (Says true w) := by
  have NN : Hid (∀ k, i ≤ k → k ≤ r → 0 ≤ D f i k) := hnn
  have HZ : Hid (D f i r = 0) := hz
  clear hnn hz
  go_enter Try.func13, Try.ntmps13
  go_wp2
  go_loop [7, 8] (fun vd vk => ∃ k : Nat, i ≤ k ∧ k ≤ r ∧ vk = .int .i64 k ∧ vd = .int .i64 (D f i k)) (fun _ vk => r - (intOf vk).toNat)
  case atStart => exact ⟨i, Nat.le_refl _, hir, rfl, by rw [D_self]⟩
  case round =>
    obtain ⟨k, h1, h2, rfl, rfl⟩ := hrel
    obtain ⟨hbd1, hbd2⟩ := D_bd f i k
    by_cases hlt : k < r
    · obtain ⟨b, off, ha, hck⟩ : ∃ b off, a = some ⟨b, off, none⟩ ∧ w.cell? ⟨b, off + k, none⟩ = some (.string (f k)) := by
        rcases h with h | ⟨b, off, ha, _, hc, _⟩
        · omega
        · exact ⟨b, off, ha, hc k (by omega)⟩
      subst ha
      cases hc : clB (f k) with
      | true =>
        have ho := cl_not_op hc
        have hS : Hid (D f i (k + 1) = D f i k - 1) := by
          show D f i (k + 1) = D f i k - 1
          rw [D_succ f h1, val_cl ho hc]; omega
        have hge : 0 ≤ D f i k - 1 := by have := NN.out (k + 1) (by omega) (by omega); rw [hS.out] at this; exact this
        go_wp2_with (first | (go_at_call 12; refine (closer_any (f k) _).mono ?_; rintro e w' ⟨rfl, hw⟩; subst hw) | (go_at_call 20; refine (opener_any (f k) _).mono ?_; rintro e w' ⟨rfl, hw⟩; subst hw) | go_in)
        go_round
        case rel => exact ⟨k + 1, by omega, by omega, by go_num, by rw [hS.out]⟩
        case measure => simp [intOf]; omega
      | false =>
        cases ho : opB (f k) with
        | true =>
          have hS : Hid (D f i (k + 1) = D f i k + 1) := by
            show D f i (k + 1) = D f i k + 1
            rw [D_succ f h1, val_op ho]
          go_wp2_with (first | (go_at_call 12; refine (closer_any (f k) _).mono ?_; rintro e w' ⟨rfl, hw⟩; subst hw) | (go_at_call 20; refine (opener_any (f k) _).mono ?_; rintro e w' ⟨rfl, hw⟩; subst hw) | go_in)
          go_round
          case rel => exact ⟨k + 1, by omega, by omega, by go_num, by rw [hS.out]⟩
          case measure => simp [intOf]; omega
        | false =>
          have hS : Hid (D f i (k + 1) = D f i k) := by
            show D f i (k + 1) = D f i k
            rw [D_succ f h1, val_no ho hc]; omega
          go_wp2_with (first | (go_at_call 12; refine (closer_any (f k) _).mono ?_; rintro e w' ⟨rfl, hw⟩; subst hw) | (go_at_call 20; refine (opener_any (f k) _).mono ?_; rintro e w' ⟨rfl, hw⟩; subst hw) | go_in)
          go_round
          case rel => exact ⟨k + 1, by omega, by omega, by go_num, by rw [hS.out]⟩
          case measure => simp [intOf]; omega
    · have e : k = r := by omega
      subst e
      have t0 : (D f i k == 0) = true := by rw [HZ.out]; rfl
      go_wp2
      go_ret
      exact ⟨rfl, rfl⟩

end Go.Proofs.Qxb6604345a
