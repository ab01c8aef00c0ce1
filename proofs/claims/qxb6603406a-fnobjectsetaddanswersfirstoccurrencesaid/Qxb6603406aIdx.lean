/-
  Seat b6603406a: sortIdx sorts indices by their strings, stably.
-/
import Derived.Test.Qxb6603406aSort
namespace Go.Proofs.Qxb6603406a
open Go.ChangeShapes Go.WideShapes Go.ChangeAt Go.RowKit

/-! ### the order of indices: by their strings, then by themselves -/
def leK (key : Nat → ByteArray) (x y : Nat) : Bool := leB (key x) (key y)
def leX (key : Nat → ByteArray) (x y : Nat) : Bool := ltB (key x) (key y) || (leB (key x) (key y) && decide (x ≤ y))

theorem leX_iff {key : Nat → ByteArray} {x y : Nat} : leX key x y = true ↔ ltB (key x) (key y) = true ∨ (key x = key y ∧ x ≤ y) := by
  unfold leX
  rw [Bool.or_eq_true, Bool.and_eq_true, decide_eq_true_iff]
  constructor
  · rintro (h | ⟨h1, h2⟩)
    · exact .inl h
    · cases h : ltB (key x) (key y)
      · exact .inr ⟨leB_antisymm h1 (ltB_false.1 h), h2⟩
      · exact .inl rfl
  · rintro (h | ⟨h1, h2⟩)
    · exact .inl h
    · exact .inr ⟨by rw [h1]; exact leB_refl _, h2⟩

theorem ltB_trans {x y z : ByteArray} (h1 : ltB x y = true) (h2 : ltB y z = true) : ltB x z = true := by
  rw [ltB_iff] at *
  exact List.lt_trans h1 h2

theorem leX_trans (key : Nat → ByteArray) (a b c : Nat) (h1 : leX key a b = true) (h2 : leX key b c = true) : leX key a c = true := by
  rw [leX_iff] at *
  rcases h1 with h1 | ⟨e1, h1⟩ <;> rcases h2 with h2 | ⟨e2, h2⟩
  · exact .inl (ltB_trans h1 h2)
  · rw [e2] at h1; exact .inl h1
  · rw [← e1] at h2; exact .inl h2
  · exact .inr ⟨e1.trans e2, Nat.le_trans h1 h2⟩

theorem leX_total (key : Nat → ByteArray) (a b : Nat) : (leX key a b || leX key b a) = true := by
  rw [Bool.or_eq_true, leX_iff, leX_iff]
  cases h1 : ltB (key a) (key b)
  · cases h2 : ltB (key b) (key a)
    · have e := leB_antisymm (ltB_false.1 h2) (ltB_false.1 h1)
      rcases Nat.le_total a b with h | h
      · exact .inl (.inr ⟨e, h⟩)
      · exact .inr (.inr ⟨e.symm, h⟩)
    · exact .inr (.inl rfl)
  · exact .inl (.inl rfl)

theorem leK_cross {key : Nat → ByteArray} {x y : Nat} (h : x < y) : leK key x y = leX key x y := by
  unfold leK leX
  have : decide (x ≤ y) = true := decide_eq_true (by omega)
  rw [this, Bool.and_true]
  cases h2 : ltB (key x) (key y)
  · simp
  · have : leB (key x) (key y) = true := by
      rw [leB_iff]
      exact List.le_of_lt (ltB_iff.1 h2)
    rw [this]
    rfl

/-- A row of the indices f 0, .. , f (n - 1). -/
def IRow (w : World) (b n : Nat) (f : Nat → Nat) : Prop := Row w b n 3 (fun j => .int .i64 (f j : Int))
theorem IRow.drewN {w : World} {b n : Nat} {f : Nat → Nat} (h : IRow w b n f) (m : Nat) : IRow (w.drewN m) b n f := Row.block h rfl
theorem IRow.set {w : World} {b n : Nat} {f : Nat → Nat} (h : IRow w b n f) (k x : Nat) : IRow (w.setCell ⟨b, k, none⟩ (.int .i64 (x : Int))) b n (upd f k x) :=
  Row.setf (C := fun x : Nat => Value.int .i64 (x : Int)) h k x

/-- The strings by which the indices are sorted lie apart from blocks A and B. -/
def Keys (w : World) (a : Option Addr) (n : Nat) (key : Nat → ByteArray) (A B : Nat) : Prop :=
  n = 0 ∨ ∃ kb ko, a = some ⟨kb, ko, none⟩ ∧ kb ≠ A ∧ kb ≠ B ∧ ∀ j, j < n → w.cell? ⟨kb, ko + j, none⟩ = some (.string (key j))

theorem Keys.kept {w w' : World} {a : Option Addr} {n A B : Nat} {key : Nat → ByteArray} (h : Keys w a n key A B) (k : Kept2 A B w w') : Keys w' a n key A B := by
  rcases h with h | ⟨kb, ko, ha, h1, h2, hc⟩
  · exact .inl h
  · exact .inr ⟨kb, ko, ha, h1, h2, fun j hj => (World.cell?_of_block (a := ⟨kb, ko + j, none⟩) (k.block kb h1 h2)).trans (hc j hj)⟩

/-- It returns nothing; block A's stretch is sorted; block B has been used; nothing else has turned. -/
def SortsX (key : Nat → ByteArray) (A B n lo hi : Nat) (f : Nat → Nat) (w : World) (e : Ending) (w' : World) : Prop :=
  e = .returned (.tuple #[]) ∧ ∃ f' h', IRow w' A n f' ∧ IRow w' B n h' ∧ SortedSeg (leX key) f f' lo hi ∧ Kept2 A B w w'

theorem SortedSeg.small {le : Nat → Nat → Bool} {f f' : Nat → Nat} {lo hi n : Nat} (s : SortedSeg le f f' lo hi) (h : ∀ j, j < n → f j < n) (hhi : hi ≤ n) : ∀ j, j < n → f' j < n := by
  intro j hj
  by_cases hin : lo ≤ j ∧ j < hi
  · have : f' j ∈ seg f' lo hi := mem_seg.2 ⟨j, hin.1, hin.2, rfl⟩
    obtain ⟨p, _, h2, e⟩ := mem_seg.1 (s.prm.mem_iff.1 this)
    rw [← e]
    exact h p (by omega)
  · rw [s.out j (by omega)]
    exact h j hj

def SortIdxSaid (fuel : Nat) : Prop := ∀ (key : Nat → ByteArray) (a : Option Addr) (cap A B n lo hi : Nat) (f h : Nat → Nat) (w : World), hi - lo ≤ fuel → lo ≤ hi → hi ≤ n → n ≤ 1048576 → A ≠ B → Keys w a n key A B → IRow w A n f → IRow w B n h →
    (∀ j, j < n → f j < n) → (∀ p q, lo ≤ p → p < q → q < hi → f p < f q) →
    Calls Try.prog 33 #[.slice a n cap, .slice (some ⟨A, 0, none⟩) n n, .slice (some ⟨B, 0, none⟩) n n, .int .i64 lo, .int .i64 hi] w (SortsX key A B n lo hi f w)

set_option maxHeartbeats 2000000 in
set_option maxRecDepth 100000 in
theorem sortIdx_any : ∀ (fuel : Nat), SortIdxSaid fuel := by
  intro fuel
  induction fuel with
  | zero =>
    intro key a cap A B n lo hi f h w hfu hlo hhi hn hne hks rA rB hsm hinc
    have e : lo = hi := by omega
    subst e
    clear hsm hinc
    go_enter Try.func33, Try.ntmps33
    go_wp2
    go_end0
    exact ⟨rfl, f, h, rA, rB, SortedSeg.short f (by omega), Kept2.refl _ _ _⟩
  | succ fuel ih =>
    intro key a cap A B n lo hi f h w hfu hlo hhi hn hne hks rA rB hsm hinc
    have HSM : Hid (∀ j, j < n → f j < n) := hsm
    have HINC : Hid (∀ p q, lo ≤ p → p < q → q < hi → f p < f q) := hinc
    clear hsm hinc
    by_cases h2 : hi < lo + 2
    · have h2' : (hi : Int) - lo < 2 := by omega
      go_enter Try.func33, Try.ntmps33
      go_wp2
      go_end0
      exact ⟨rfl, f, h, rA, rB, SortedSeg.short f (by omega), Kept2.refl _ _ _⟩
    · obtain ⟨mid, hm⟩ : ∃ mid : Nat, mid = lo + (hi - lo) / 2 := ⟨_, rfl⟩
      have h2' : ¬ (hi : Int) - lo < 2 := by omega
      have hm1 : lo < mid := by omega
      have hm2 : mid < hi := by omega
      have hmi : (lo : Int) + ((hi : Int) - lo) / 2 = mid := by omega
      clear hm
      obtain ⟨kb, ko, rfl⟩ : ∃ kb ko, a = some ⟨kb, ko, none⟩ := by
        rcases hks with h | ⟨kb, ko, ha, _⟩
        · omega
        · exact ⟨kb, ko, ha⟩
      go_enter Try.func33, Try.ntmps33
      go_wp2_with fail
      refine (ih key (some ⟨kb, ko, none⟩) cap A B n lo mid f h w (by omega) (by omega) (by omega) hn hne hks rA rB HSM.out (fun p q h1 h2 h3 => HINC.out p q h1 h2 (by omega))).mono ?_
      rintro e w1 ⟨rfl, f1, h1, rA1, rB1, s1, k1⟩
      have hks1 := hks.kept k1
      clear rA rB
      go_wp2_with fail
      refine (ih key (some ⟨kb, ko, none⟩) cap A B n mid hi f1 h1 w1 (by omega) (by omega) (by omega) hn hne hks1 rA1 rB1 (s1.small HSM.out (by omega)) (fun p q h1 h2 h3 => by rw [s1.out p (by omega), s1.out q (by omega)]; exact HINC.out p q (by omega) h2 h3)).mono ?_
      rintro e w2 ⟨rfl, f2, h2, rA2, rB2, s2, k2⟩
      have hks2 := hks1.kept k2
      have HS2 : Hid (∀ j, j < n → f2 j < n) := s2.small (s1.small HSM.out (by omega)) (by omega)
      clear rA1 rB1 ih hks hks1
      go_wp2
      go_loopw [11, 12, 13] (fun vi vj vk wr => ∃ i j k : Nat, vi = .int .i64 i ∧ vj = .int .i64 j ∧ vk = .int .i64 k ∧ ∃ h, MState (leK key) f2 h lo mid hi i j k ∧ IRow wr A n f2 ∧ IRow wr B n h ∧ Kept2 A B w2 wr) (fun _ _ vk _ => hi - (intOf vk).toNat)
      case atStart => exact ⟨lo, mid, lo, rfl, rfl, rfl, h2, MState.start _ (by omega) (by omega), rA2, rB2, Kept2.refl _ _ _⟩
      case round =>
        obtain ⟨i, j, k, rfl, rfl, rfl, h, ms, rA, rB, kp⟩ := hrel
        clear rA2 rB2
        have hksr := hks2.kept kp
        have HK : Hid (Keys wr (some ⟨kb, ko, none⟩) n key A B) := hksr
        clear hksr
        have li := ms.li
        have im := ms.im
        have mj := ms.mj
        have jh := ms.jh
        have KK : Hid (k + mid = i + j) := ms.kk
        have keyc : Hid (∀ p, p < n → wr.cell? ⟨kb, ko + p, none⟩ = some (.string (key p))) := by
          rcases HK.out with h0 | ⟨kb', ko', ha, _, _, hc⟩
          · intro p hp; omega
          · cases ha; exact hc
        by_cases hk : k < hi
        · have cB : wr.cell? ⟨B, k, none⟩ = some (.int .i64 (h k : Int)) := Row.cell rB (by omega)
          have fB : wr.frozen? ⟨B, k, none⟩ = false := Row.frozen rB k
          by_cases hj : j < hi
          · have d1 : decide (hi ≤ j) = false := decide_eq_false (by omega)
            have cJ : wr.cell? ⟨A, j, none⟩ = some (.int .i64 (f2 j : Int)) := Row.cell rA (by omega)
            have bJ : f2 j < n := HS2.out j (by omega)
            by_cases hi' : i < mid
            · have cI : wr.cell? ⟨A, i, none⟩ = some (.int .i64 (f2 i : Int)) := Row.cell rA (by omega)
              have bI : f2 i < n := HS2.out i (by omega)
              have kI := keyc.out (f2 i) bI
              have kJ := keyc.out (f2 j) bJ
              cases hle : leK key (f2 i) (f2 j) with
              | true =>
                have ht : (Op.bytesLess (key (f2 i)).toList (key (f2 j)).toList || (key (f2 i)).toList == (key (f2 j)).toList) = true := hle
                go_wp2
                go_quiet (fail)
                go_wp2
                go_roundw
                case rel => exact ⟨i + 1, j, k + 1, by go_num, rfl, by go_num, upd h k (f2 i), ms.left (by omega) (.inr hle), Row.other (rA.drewN _) (by exact hne) _, (rB.drewN _).set k (f2 i), (kp.drewN _).set (.inr rfl) _⟩
                case measure => simp [intOf]; omega
              | false =>
                have ht : (Op.bytesLess (key (f2 i)).toList (key (f2 j)).toList || (key (f2 i)).toList == (key (f2 j)).toList) = false := hle
                go_wp2
                go_quiet (fail)
                go_wp2
                go_roundw
                case rel => exact ⟨i, j + 1, k + 1, rfl, by go_num, by go_num, upd h k (f2 j), ms.right hj (.inr hle), Row.other (rA.drewN _) (by exact hne) _, (rB.drewN _).set k (f2 j), (kp.drewN _).set (.inr rfl) _⟩
                case measure => simp [intOf]; omega
            · have d2 : decide (i < mid) = false := decide_eq_false (by omega)
              go_wp2
              go_quiet (fail)
              go_wp2
              go_roundw
              case rel => exact ⟨i, j + 1, k + 1, rfl, by go_num, by go_num, upd h k (f2 j), ms.right hj (.inl (by omega)), Row.other (rA.drewN _) (by exact hne) _, (rB.drewN _).set k (f2 j), (kp.drewN _).set (.inr rfl) _⟩
              case measure => simp [intOf]; omega
          · have d1 : decide (hi ≤ j) = true := decide_eq_true (by omega)
            have hi' : i < mid := by have := KK.out; omega
            have cI : wr.cell? ⟨A, i, none⟩ = some (.int .i64 (f2 i : Int)) := Row.cell rA (by omega)
            go_wp2
            go_quiet (fail)
            go_wp2
            go_roundw
            case rel => exact ⟨i + 1, j, k + 1, by go_num, rfl, by go_num, upd h k (f2 i), ms.left (by omega) (.inl (by omega)), Row.other (rA.drewN _) (by exact hne) _, (rB.drewN _).set k (f2 i), (kp.drewN _).set (.inr rfl) _⟩
            case measure => simp [intOf]; omega
        · have hd := ms.done (by omega)
          have HD : Hid (seg h lo hi = (seg f2 lo mid).merge (seg f2 mid hi) (leK key)) := hd
          clear hd
          go_wp2
          go_loopw [13] (fun vk wx => ∃ k : Nat, vk = .int .i64 k ∧ lo ≤ k ∧ k ≤ hi ∧ ∃ f3, IRow wx A n f3 ∧ IRow wx B n h ∧ (∀ j, lo ≤ j → j < k → f3 j = h j) ∧ (∀ j, (j < lo ∨ k ≤ j) → f3 j = f2 j) ∧ Kept2 A B w2 wx) (fun vk _ => hi - (intOf vk).toNat)
          case atStart => exact ⟨lo, rfl, Nat.le_refl _, hlo, f2, rA, rB, fun j h1 h2 => by omega, fun j _ => rfl, kp⟩
          case round =>
            obtain ⟨k', rfl, hk1, hk2, f3, rA', rB', he1, he2, kp'⟩ := hrel
            have E1 : Hid (∀ j, lo ≤ j → j < k' → f3 j = h j) := he1
            have E2 : Hid (∀ j, (j < lo ∨ k' ≤ j) → f3 j = f2 j) := he2
            clear he1 he2 rA rB kp
            by_cases hlt : k' < hi
            · have cB : wr.cell? ⟨B, k', none⟩ = some (.int .i64 (h k' : Int)) := Row.cell rB' (by omega)
              have cA : wr.cell? ⟨A, k', none⟩ = some (.int .i64 (f3 k' : Int)) := Row.cell rA' (by omega)
              have fA : wr.frozen? ⟨A, k', none⟩ = false := Row.frozen rA' k'
              go_wp2
              go_roundw
              case rel =>
                refine ⟨k' + 1, by go_num, by omega, by omega, upd f3 k' (h k'), rA'.set k' (h k'), Row.other rB' (by exact hne.symm) _, fun j h1 h2 => ?_, fun j hj => ?_, kp'.set (.inl rfl) _⟩
                · by_cases e : j = k'
                  · rw [e, upd_same]
                  · rw [upd_other f3 _ e]; exact E1.out j h1 (by omega)
                · rw [upd_other f3 _ (by omega)]; exact E2.out j (by omega)
              case measure => simp [intOf]; omega
            · go_wp2
              go_end0
              refine ⟨rfl, f3, h, rA', rB', ?_, k1.trans (k2.trans kp')⟩
              refine SortedSeg.merged (le := leK key) (leX_trans key) (leX_total key) (by omega) (by omega) s1 s2 (fun x hx y hy => ?_) ?_ (fun j hj => E2.out j (by omega))
              · obtain ⟨p, hp1, hp2, rfl⟩ := mem_seg.1 hx
                obtain ⟨q, hq1, hq2, rfl⟩ := mem_seg.1 hy
                exact leK_cross (HINC.out p q hp1 (by omega) hq2)
              · rw [← HD.out]
                exact seg_congr fun j h1 h2 => E1.out j h1 (by omega)
end Go.Proofs.Qxb6603406a
