/-
  Seat b6604345a: skipGroup, skipTo, and the two scans of the laws.
-/
import Derived.Test.Qxb6604345aBase
namespace Go.Proofs.Qxb6604345a
open Go.ChangeShapes Go.WideShapes Go.ChangeAt Go.RowKit

/-- It returns the bool b; the world stands. -/
def Says (b : Bool) (w : World) (e : Ending) (w' : World) : Prop := e = .returned (.bool b) ∧ w' = w

set_option maxHeartbeats 400000 in
theorem closer_any (x : ByteArray) (w : World) : Calls Try.prog 12 #[.string x] w (Says (clB x) w) := by
  rcases kinds x with (h | h | h | h | h | h) | ⟨h1, h2, h3, h4, h5, h6⟩
  all_goals
    go_enter Try.func12, Try.ntmps12
    go_wp2
    go_ret
    exact ⟨by simp [clB, *], rfl⟩

set_option maxHeartbeats 400000 in
theorem opener_any (x : ByteArray) (w : World) : Calls Try.prog 20 #[.string x] w (Says (opB x) w) := by
  rcases kinds x with (h | h | h | h | h | h) | ⟨h1, h2, h3, h4, h5, h6⟩
  all_goals
    go_enter Try.func20, Try.ntmps20
    go_wp2
    go_ret
    exact ⟨by simp [opB, *], rfl⟩

/-- It returns a number r of which P holds; the world stands. -/
def RetsR (P : Nat → Prop) (w : World) (e : Ending) (w' : World) : Prop := ∃ r : Nat, e = .returned (.int .i64 r) ∧ P r ∧ w' = w

theorem pos_succ {f : Nat → ByteArray} {i k : Nat} (h : ∀ j, i < j → j ≤ k → 1 ≤ D f i j) (h' : 1 ≤ D f i (k + 1)) : ∀ j, i < j → j ≤ k + 1 → 1 ≤ D f i j := by
  intro j h1 h2
  by_cases e : j = k + 1
  · rw [e]; exact h'
  · exact h j h1 (by omega)

set_option maxHeartbeats 2000000 in
set_option maxRecDepth 100000 in
theorem skipGroup_any (a : Option Addr) (n cap : Nat) (f : Nat → ByteArray) (i : Nat) (w : World) (hn : n ≤ 65536) (h : Strs w a n f) (hi : i < n) (ho : opB (f i) = true) :
    Calls Try.prog 25 #[.slice a n cap, .int .i64 i] w (RetsR (Group f n i) w) := by
  obtain ⟨b, off, rfl, hc⟩ : ∃ b off, a = some ⟨b, off, none⟩ ∧ Hid (∀ j, j < n → w.cell? ⟨b, off + j, none⟩ = some (.string (f j))) := by
    rcases h with h | ⟨b, off, ha, _, hc, _⟩
    · omega
    · exact ⟨b, off, ha, hc⟩
  go_enter Try.func25, Try.ntmps25
  go_wp2
  go_loop [1, 5] (fun vk vd => ∃ k : Nat, i ≤ k ∧ k ≤ n ∧ vk = .int .i64 k ∧ vd = .int .i64 (D f i k) ∧ ∀ j, i < j → j ≤ k → 1 ≤ D f i j) (fun vk _ => n - (intOf vk).toNat)
  case atStart => exact ⟨i, Nat.le_refl _, Nat.le_of_lt hi, rfl, by rw [D_self], fun j h1 h2 => by omega⟩
  case round =>
    obtain ⟨k, h1, h2, rfl, rfl, h3⟩ := hrel
    have H3 : Hid (∀ j, i < j → j ≤ k → 1 ≤ D f i j) := h3
    clear h3
    have hbd := D_bd f i k
    obtain ⟨hbd1, hbd2⟩ := hbd
    by_cases hlt : k < n
    · have hck := hc.out k hlt
      rcases kinds (f k) with (hx | hx | hx | hx | hx | hx) | ⟨x1, x2, x3, x4, x5, x6⟩
      · have hb0 : opB (f k) = false := by simp [opB, hx]
        have hb1 : clB (f k) = true := by simp [clB, hx]
        have hne : k ≠ i := fun e => by rw [e] at hb0; rw [ho] at hb0; cases hb0
        have hd1 : 1 ≤ D f i k := H3.out k (by omega) (Nat.le_refl _)
        have hS : Hid (D f i (k + 1) = D f i k - 1) := by
          show D f i (k + 1) = D f i k - 1
          rw [D_succ f h1, val_cl hb0 hb1]; omega
        by_cases hone : D f i k = 1
        · have HONE : Hid (D f i k = 1) := hone
          have t0 : (D f i k - 1 == 0) = true := by rw [hone]; rfl
          clear hone
          go_wp2
          go_ret
          exact ⟨k + 1, rfl, ⟨by omega, by omega, fun j h1 h2 => H3.out j h1 (by omega), .inr (by rw [hS.out, HONE.out]; rfl)⟩, rfl⟩
        · have t0 : (D f i k - 1 == 0) = false := beq_eq_false_iff_ne.2 (by omega)
          go_wp2
          go_round
          case rel => exact ⟨k + 1, by omega, by omega, by go_num, by rw [hS.out], pos_succ H3.out (by rw [hS.out]; omega)⟩
          case measure => simp [intOf]; omega
      · have hb0 : opB (f k) = false := by simp [opB, hx]
        have hb1 : clB (f k) = true := by simp [clB, hx]
        have hne : k ≠ i := fun e => by rw [e] at hb0; rw [ho] at hb0; cases hb0
        have hd1 : 1 ≤ D f i k := H3.out k (by omega) (Nat.le_refl _)
        have hS : Hid (D f i (k + 1) = D f i k - 1) := by
          show D f i (k + 1) = D f i k - 1
          rw [D_succ f h1, val_cl hb0 hb1]; omega
        by_cases hone : D f i k = 1
        · have HONE : Hid (D f i k = 1) := hone
          have t0 : (D f i k - 1 == 0) = true := by rw [hone]; rfl
          clear hone
          go_wp2
          go_ret
          exact ⟨k + 1, rfl, ⟨by omega, by omega, fun j h1 h2 => H3.out j h1 (by omega), .inr (by rw [hS.out, HONE.out]; rfl)⟩, rfl⟩
        · have t0 : (D f i k - 1 == 0) = false := beq_eq_false_iff_ne.2 (by omega)
          go_wp2
          go_round
          case rel => exact ⟨k + 1, by omega, by omega, by go_num, by rw [hS.out], pos_succ H3.out (by rw [hS.out]; omega)⟩
          case measure => simp [intOf]; omega
      · have hb0 : opB (f k) = false := by simp [opB, hx]
        have hb1 : clB (f k) = true := by simp [clB, hx]
        have hne : k ≠ i := fun e => by rw [e] at hb0; rw [ho] at hb0; cases hb0
        have hd1 : 1 ≤ D f i k := H3.out k (by omega) (Nat.le_refl _)
        have hS : Hid (D f i (k + 1) = D f i k - 1) := by
          show D f i (k + 1) = D f i k - 1
          rw [D_succ f h1, val_cl hb0 hb1]; omega
        by_cases hone : D f i k = 1
        · have HONE : Hid (D f i k = 1) := hone
          have t0 : (D f i k - 1 == 0) = true := by rw [hone]; rfl
          clear hone
          go_wp2
          go_ret
          exact ⟨k + 1, rfl, ⟨by omega, by omega, fun j h1 h2 => H3.out j h1 (by omega), .inr (by rw [hS.out, HONE.out]; rfl)⟩, rfl⟩
        · have t0 : (D f i k - 1 == 0) = false := beq_eq_false_iff_ne.2 (by omega)
          go_wp2
          go_round
          case rel => exact ⟨k + 1, by omega, by omega, by go_num, by rw [hS.out], pos_succ H3.out (by rw [hS.out]; omega)⟩
          case measure => simp [intOf]; omega
      · have hb0 : opB (f k) = true := by simp [opB, hx]
        have hd0 : 0 ≤ D f i k := by
          by_cases e : k = i
          · rw [e, D_self]; omega
          · have := H3.out k (by omega) (Nat.le_refl _); omega
        have hS : Hid (D f i (k + 1) = D f i k + 1) := by
          show D f i (k + 1) = D f i k + 1
          rw [D_succ f h1, val_op hb0]
        have t0 : (D f i k + 1 == 0) = false := beq_eq_false_iff_ne.2 (by omega)
        go_wp2
        go_round
        case rel => exact ⟨k + 1, by omega, by omega, by go_num, by rw [hS.out], pos_succ H3.out (by rw [hS.out]; omega)⟩
        case measure => simp [intOf]; omega
      · have hb0 : opB (f k) = true := by simp [opB, hx]
        have hd0 : 0 ≤ D f i k := by
          by_cases e : k = i
          · rw [e, D_self]; omega
          · have := H3.out k (by omega) (Nat.le_refl _); omega
        have hS : Hid (D f i (k + 1) = D f i k + 1) := by
          show D f i (k + 1) = D f i k + 1
          rw [D_succ f h1, val_op hb0]
        have t0 : (D f i k + 1 == 0) = false := beq_eq_false_iff_ne.2 (by omega)
        go_wp2
        go_round
        case rel => exact ⟨k + 1, by omega, by omega, by go_num, by rw [hS.out], pos_succ H3.out (by rw [hS.out]; omega)⟩
        case measure => simp [intOf]; omega
      · have hb0 : opB (f k) = true := by simp [opB, hx]
        have hd0 : 0 ≤ D f i k := by
          by_cases e : k = i
          · rw [e, D_self]; omega
          · have := H3.out k (by omega) (Nat.le_refl _); omega
        have hS : Hid (D f i (k + 1) = D f i k + 1) := by
          show D f i (k + 1) = D f i k + 1
          rw [D_succ f h1, val_op hb0]
        have t0 : (D f i k + 1 == 0) = false := beq_eq_false_iff_ne.2 (by omega)
        go_wp2
        go_round
        case rel => exact ⟨k + 1, by omega, by omega, by go_num, by rw [hS.out], pos_succ H3.out (by rw [hS.out]; omega)⟩
        case measure => simp [intOf]; omega
      · have hb0 : opB (f k) = false := by simp [opB, x4, x5, x6]
        have hb1 : clB (f k) = false := by simp [clB, x1, x2, x3]
        have hne : k ≠ i := fun e => by rw [e] at hb0; rw [ho] at hb0; cases hb0
        have hd1 : 1 ≤ D f i k := H3.out k (by omega) (Nat.le_refl _)
        have hS : Hid (D f i (k + 1) = D f i k) := by
          show D f i (k + 1) = D f i k
          rw [D_succ f h1, val_no hb0 hb1]; omega
        have t0 : (D f i k == 0) = false := beq_eq_false_iff_ne.2 (by omega)
        go_wp2
        go_round
        case rel => exact ⟨k + 1, by omega, by omega, by go_num, by rw [hS.out], pos_succ H3.out (by rw [hS.out]; omega)⟩
        case measure => simp [intOf]; omega
    · have e : k = n := by omega
      subst e
      go_wp2
      go_ret
      exact ⟨k, rfl, ⟨hi, Nat.le_refl _, fun j h1 h2 => H3.out j h1 (Nat.le_of_lt h2), .inl rfl⟩, rfl⟩


set_option maxHeartbeats 2000000 in
set_option maxRecDepth 100000 in
theorem skipTo_any (a : Option Addr) (n cap : Nat) (f : Nat → ByteArray) (i : Nat) (s : ByteArray) (w : World) (hn : n ≤ 65536) (h : Strs w a n f) (hi : i ≤ n) :
    Calls Try.prog 19 #[.slice a n cap, .int .i64 i, .string s] w (RetsR (Hit f s n i) w) := by
  go_enter Try.func19, Try.ntmps19
  go_wp2
  go_loop [1] (fun vk => ∃ k : Nat, i ≤ k ∧ k ≤ n ∧ vk = .int .i64 k ∧ (D f i k = 0 ∨ k = n) ∧ NoHit f s i k) (fun vk => n - (intOf vk).toNat)
  case atStart => exact ⟨i, Nat.le_refl _, hi, rfl, .inl (D_self f i), NoHit.start f s i⟩
  case round =>
    obtain ⟨k, h1, h2, rfl, hd, hnh⟩ := hrel
    have NH : Hid (NoHit f s i k) := hnh
    clear hnh
    by_cases hlt : k < n
    · have HD : Hid (D f i k = 0) := by
        rcases hd with hd | hd
        · exact hd
        · omega
      clear hd
      obtain ⟨b, off, ha, hck⟩ : ∃ b off, a = some ⟨b, off, none⟩ ∧ w.cell? ⟨b, off + k, none⟩ = some (.string (f k)) := by
        rcases h with h | ⟨b, off, ha, _, hc, _⟩
        · omega
        · exact ⟨b, off, ha, hc k hlt⟩
      subst ha
      cases he : ((f k).toList == s.toList) with
      | true =>
        go_wp2
        go_ret
        exact ⟨k, rfl, ⟨h1, h2, NH.out, .inr ⟨HD.out, .inl (eq_of_lists he)⟩⟩, rfl⟩
      | false =>
        rcases kinds (f k) with (hx | hx | hx | hx | hx | hx) | ⟨x1, x2, x3, x4, x5, x6⟩
        · have hb1 : clB (f k) = true := by simp [clB, hx]
          have he' : ([41] == s.toList) = false := by rw [← hx]; exact he
          clear he
          go_wp2
          go_ret
          exact ⟨k, rfl, ⟨h1, h2, NH.out, .inr ⟨HD.out, .inr hb1⟩⟩, rfl⟩
        · have hb1 : clB (f k) = true := by simp [clB, hx]
          have he' : ([93] == s.toList) = false := by rw [← hx]; exact he
          clear he
          go_wp2
          go_ret
          exact ⟨k, rfl, ⟨h1, h2, NH.out, .inr ⟨HD.out, .inr hb1⟩⟩, rfl⟩
        · have hb1 : clB (f k) = true := by simp [clB, hx]
          have he' : ([125] == s.toList) = false := by rw [← hx]; exact he
          clear he
          go_wp2
          go_ret
          exact ⟨k, rfl, ⟨h1, h2, NH.out, .inr ⟨HD.out, .inr hb1⟩⟩, rfl⟩
        · have hb0 : opB (f k) = true := by simp [opB, hx]
          have hb1 : clB (f k) = false := by simp [clB, hx]
          have he' : ([40] == s.toList) = false := by rw [← hx]; exact he
          have hns : Hid (¬ Stopper s (f k)) := fun h => by rcases h with h | h; exact ne_of_lists he h; rw [hb1] at h; cases h
          clear he
          go_wp2_with fail
          refine (skipGroup_any _ n cap f k _ hn h hlt hb0).mono ?_
          rintro e w' ⟨r, rfl, g, hw⟩
          subst hw
          have hg1 := g.lo
          have hg2 := g.hi
          have G : Hid (Group f n k r) := g
          clear g
          go_wp2
          go_round
          case rel => exact ⟨r, by omega, hg2, rfl, group_end h1 HD.out G.out, NH.out.group h1 HD.out G.out hns.out⟩
          case measure => simp [intOf]; omega
        · have hb0 : opB (f k) = true := by simp [opB, hx]
          have hb1 : clB (f k) = false := by simp [clB, hx]
          have he' : ([91] == s.toList) = false := by rw [← hx]; exact he
          have hns : Hid (¬ Stopper s (f k)) := fun h => by rcases h with h | h; exact ne_of_lists he h; rw [hb1] at h; cases h
          clear he
          go_wp2_with fail
          refine (skipGroup_any _ n cap f k _ hn h hlt hb0).mono ?_
          rintro e w' ⟨r, rfl, g, hw⟩
          subst hw
          have hg1 := g.lo
          have hg2 := g.hi
          have G : Hid (Group f n k r) := g
          clear g
          go_wp2
          go_round
          case rel => exact ⟨r, by omega, hg2, rfl, group_end h1 HD.out G.out, NH.out.group h1 HD.out G.out hns.out⟩
          case measure => simp [intOf]; omega
        · have hb0 : opB (f k) = true := by simp [opB, hx]
          have hb1 : clB (f k) = false := by simp [clB, hx]
          have he' : ([123] == s.toList) = false := by rw [← hx]; exact he
          have hns : Hid (¬ Stopper s (f k)) := fun h => by rcases h with h | h; exact ne_of_lists he h; rw [hb1] at h; cases h
          clear he
          go_wp2_with fail
          refine (skipGroup_any _ n cap f k _ hn h hlt hb0).mono ?_
          rintro e w' ⟨r, rfl, g, hw⟩
          subst hw
          have hg1 := g.lo
          have hg2 := g.hi
          have G : Hid (Group f n k r) := g
          clear g
          go_wp2
          go_round
          case rel => exact ⟨r, by omega, hg2, rfl, group_end h1 HD.out G.out, NH.out.group h1 HD.out G.out hns.out⟩
          case measure => simp [intOf]; omega
        · have hb0 : opB (f k) = false := by simp [opB, x4, x5, x6]
          have hb1 : clB (f k) = false := by simp [clB, x1, x2, x3]
          have hS : Hid (D f i (k + 1) = 0) := by
            show D f i (k + 1) = 0
            rw [D_succ f h1, val_no hb0 hb1, HD.out]; rfl
          have hns : Hid (¬ Stopper s (f k)) := fun h => by rcases h with h | h; exact ne_of_lists he h; rw [hb1] at h; cases h
          go_wp2
          go_round
          case rel => exact ⟨k + 1, by omega, by omega, by go_num, .inl hS.out, NH.out.step fun h => hns.out h.2⟩
          case measure => simp [intOf]; omega
    · have e : k = n := by omega
      subst e
      clear hd
      go_wp2
      go_ret
      exact ⟨k, rfl, ⟨h1, h2, NH.out, .inl rfl⟩, rfl⟩

set_option maxHeartbeats 400000 in
theorem zzSkipTo_any (a : Option Addr) (n cap : Nat) (f : Nat → ByteArray) (i : Nat) (s : ByteArray) (w : World) (hn : n ≤ 65536) (h : Strs w a n f) (hi : i ≤ n) :
    Calls Try.prog 9 #[.slice a n cap, .int .i64 i, .string s] w (RetsR (Hit f s n i) w) := by
  have hC := skipTo_any a n cap f i s w hn h hi
  go_enter Try.func9, Try.ntmps9
  go_wp2_with fail
  refine hC.mono ?_
  rintro e w' ⟨r, rfl, hh, hw⟩
  subst hw
  have HH : Hid (Hit f s n i r) := hh
  clear hC hh
  go_wp2
  go_ret
  exact ⟨r, rfl, HH.out, rfl⟩


theorem cl_not_op {x : ByteArray} (h : clB x = true) : opB x = false := by
  rcases kinds x with (hx | hx | hx | hx | hx | hx) | ⟨x1, x2, x3, x4, x5, x6⟩
  all_goals simp_all [clB, opB]

set_option maxHeartbeats 2000000 in
set_option maxRecDepth 100000 in
theorem depthScan_any (a : Option Addr) (n cap : Nat) (f : Nat → ByteArray) (i : Nat) (s : ByteArray) (w : World) (hn : n ≤ 65536) (h : Strs w a n f) (hi : i ≤ n) :
    Calls Try.prog 10 #[.slice a n cap, .int .i64 i, .string s] w (RetsR (Hit f s n i) w) := by
  go_enter Try.func10, Try.ntmps10
  go_wp2
  go_loop [7, 8] (fun vd vk => ∃ k : Nat, i ≤ k ∧ k ≤ n ∧ vk = .int .i64 k ∧ vd = .int .i64 (D f i k) ∧ NoHit f s i k) (fun _ vk => n - (intOf vk).toNat)
  case atStart => exact ⟨i, Nat.le_refl _, hi, rfl, by rw [D_self], NoHit.start f s i⟩
  case round =>
    obtain ⟨k, h1, h2, rfl, rfl, hnh⟩ := hrel
    have NH : Hid (NoHit f s i k) := hnh
    clear hnh
    obtain ⟨hbd1, hbd2⟩ := D_bd f i k
    by_cases hlt : k < n
    · obtain ⟨b, off, ha, hck⟩ : ∃ b off, a = some ⟨b, off, none⟩ ∧ w.cell? ⟨b, off + k, none⟩ = some (.string (f k)) := by
        rcases h with h | ⟨b, off, ha, _, hc, _⟩
        · omega
        · exact ⟨b, off, ha, hc k hlt⟩
      subst ha
      by_cases hz : D f i k = 0
      · have HZ : Hid (D f i k = 0) := hz
        have t0 : (D f i k == 0) = true := by rw [hz]; rfl
        clear hz
        cases he : ((f k).toList == s.toList) with
        | true =>
          go_wp2_with (first | (go_at_call 12; refine (closer_any (f k) _).mono ?_; rintro e w' ⟨rfl, hw⟩; subst hw) | (go_at_call 20; refine (opener_any (f k) _).mono ?_; rintro e w' ⟨rfl, hw⟩; subst hw) | go_in)
          go_ret
          exact ⟨k, rfl, ⟨h1, h2, NH.out, .inr ⟨HZ.out, .inl (eq_of_lists he)⟩⟩, rfl⟩
        | false =>
          cases hc : clB (f k) with
          | true =>
            go_wp2_with (first | (go_at_call 12; refine (closer_any (f k) _).mono ?_; rintro e w' ⟨rfl, hw⟩; subst hw) | (go_at_call 20; refine (opener_any (f k) _).mono ?_; rintro e w' ⟨rfl, hw⟩; subst hw) | go_in)
            go_ret
            exact ⟨k, rfl, ⟨h1, h2, NH.out, .inr ⟨HZ.out, .inr hc⟩⟩, rfl⟩
          | false =>
            cases ho : opB (f k) with
            | true =>
              have hS : Hid (D f i (k + 1) = D f i k + 1) := by
                show D f i (k + 1) = D f i k + 1
                rw [D_succ f h1, val_op ho]
              go_wp2_with (first | (go_at_call 12; refine (closer_any (f k) _).mono ?_; rintro e w' ⟨rfl, hw⟩; subst hw) | (go_at_call 20; refine (opener_any (f k) _).mono ?_; rintro e w' ⟨rfl, hw⟩; subst hw) | go_in)
              go_round
              case rel => exact ⟨k + 1, by omega, by omega, by go_num, by rw [hS.out], NH.out.step (fun h => by rcases h.2 with h | h; exact ne_of_lists he h; rw [hc] at h; cases h)⟩
              case measure => simp [intOf]; omega
            | false =>
              have hS : Hid (D f i (k + 1) = D f i k) := by
                show D f i (k + 1) = D f i k
                rw [D_succ f h1, val_no ho hc]; omega
              go_wp2_with (first | (go_at_call 12; refine (closer_any (f k) _).mono ?_; rintro e w' ⟨rfl, hw⟩; subst hw) | (go_at_call 20; refine (opener_any (f k) _).mono ?_; rintro e w' ⟨rfl, hw⟩; subst hw) | go_in)
              go_round
              case rel => exact ⟨k + 1, by omega, by omega, by go_num, by rw [hS.out], NH.out.step (fun h => by rcases h.2 with h | h; exact ne_of_lists he h; rw [hc] at h; cases h)⟩
              case measure => simp [intOf]; omega
      · have t0 : (D f i k == 0) = false := beq_eq_false_iff_ne.2 hz
        cases hc : clB (f k) with
        | true =>
          have ho := cl_not_op hc
          have hS : Hid (D f i (k + 1) = D f i k - 1) := by
            show D f i (k + 1) = D f i k - 1
            rw [D_succ f h1, val_cl ho hc]; omega
          go_wp2_with (first | (go_at_call 12; refine (closer_any (f k) _).mono ?_; rintro e w' ⟨rfl, hw⟩; subst hw) | (go_at_call 20; refine (opener_any (f k) _).mono ?_; rintro e w' ⟨rfl, hw⟩; subst hw) | go_in)
          go_round
          case rel => exact ⟨k + 1, by omega, by omega, by go_num, by rw [hS.out], NH.out.step (fun h => hz h.1)⟩
          case measure => simp [intOf]; omega
        | false =>
          cases ho : opB (f k) with
          | true =>
            have hS : Hid (D f i (k + 1) = D f i k + 1) := by
              show D f i (k + 1) = D f i k + 1
              rw [D_succ f h1, val_op ho]
            go_wp2_with (first | (go_at_call 12; refine (closer_any (f k) _).mono ?_; rintro e w' ⟨rfl, hw⟩; subst hw) | (go_at_call 20; refine (opener_any (f k) _).mono ?_; rintro e w' ⟨rfl, hw⟩; subst hw) | go_in)
            go_round
            case rel => exact ⟨k + 1, by omega, by omega, by go_num, by rw [hS.out], NH.out.step (fun h => hz h.1)⟩
            case measure => simp [intOf]; omega
          | false =>
            have hS : Hid (D f i (k + 1) = D f i k) := by
              show D f i (k + 1) = D f i k
              rw [D_succ f h1, val_no ho hc]; omega
            go_wp2_with (first | (go_at_call 12; refine (closer_any (f k) _).mono ?_; rintro e w' ⟨rfl, hw⟩; subst hw) | (go_at_call 20; refine (opener_any (f k) _).mono ?_; rintro e w' ⟨rfl, hw⟩; subst hw) | go_in)
            go_round
            case rel => exact ⟨k + 1, by omega, by omega, by go_num, by rw [hS.out], NH.out.step (fun h => hz h.1)⟩
            case measure => simp [intOf]; omega
    · have e : k = n := by omega
      subst e
      go_wp2
      go_ret
      exact ⟨k, rfl, ⟨h1, h2, NH.out, .inl rfl⟩, rfl⟩

end Go.Proofs.Qxb6604345a
