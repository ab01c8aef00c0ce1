/-
  Seat b6603406a: mergeSort sorts; sortedCopy makes a sorted copy.
-/
import Derived.Test.Qxb6603406aBase
import Derived.Deep.QuietTactic
import Derived.BigQuiet
namespace Go.Proofs.Qxb6603406a
open Go.ChangeShapes Go.WideShapes Go.ChangeAt Go.RowKit

/-- w' is w but for the cells of blocks A and B. -/
structure Kept2 (A B : Nat) (w w' : World) : Prop where
  os : w'.os = w.os
  tape : w'.tape = w.tape
  output : w'.output = w.output
  size : w'.heap.size = w.heap.size
  block : ∀ k, k ≠ A → k ≠ B → w'.heap[k]? = w.heap[k]?

theorem Kept2.refl (A B : Nat) (w : World) : Kept2 A B w w := ⟨rfl, rfl, rfl, rfl, fun _ _ _ => rfl⟩
theorem Kept2.trans {A B : Nat} {a b c : World} (h : Kept2 A B a b) (k : Kept2 A B b c) : Kept2 A B a c :=
  ⟨k.os.trans h.os, k.tape.trans h.tape, k.output.trans h.output, k.size.trans h.size, fun i h1 h2 => (k.block i h1 h2).trans (h.block i h1 h2)⟩
theorem Kept2.set {A B : Nat} {a w : World} (h : Kept2 A B a w) {p : Addr} (hp : p.block = A ∨ p.block = B) (v : Value) : Kept2 A B a (w.setCell p v) :=
  h.trans ⟨rfl, rfl, rfl, by simp [World.setCell], fun k h1 h2 => Below.heap_setCell _ _ _ _ (by rcases hp with e | e <;> rw [e] <;> assumption)⟩
theorem Kept2.drewN {A B : Nat} {a w : World} (h : Kept2 A B a w) (n : Nat) : Kept2 A B a (w.drewN n) := h.trans ⟨rfl, rfl, rfl, rfl, fun _ _ _ => rfl⟩
theorem Kept2.below {A B C : Nat} {w w' : World} (h : Kept2 A B w w') (hA : C ≤ A) (hB : C ≤ B) : Below C w w' :=
  ⟨h.os, h.tape, h.output, by rw [h.size]; exact Nat.le_refl _, fun k hk => h.block k (by omega) (by omega)⟩

def SRow (w : World) (b n : Nat) (f : Nat → ByteArray) : Prop := Row w b n 9 (fun j => .string (f j))
theorem SRow.drewN {w : World} {b n : Nat} {f : Nat → ByteArray} (h : SRow w b n f) (m : Nat) : SRow (w.drewN m) b n f := Row.block h rfl

/-- It returns nothing; block A's stretch is sorted; block B has been used; nothing else has turned. -/
def Sorts (A B n lo hi : Nat) (f : Nat → ByteArray) (w : World) (e : Ending) (w' : World) : Prop :=
  e = .returned (.tuple #[]) ∧ ∃ f' h', SRow w' A n f' ∧ SRow w' B n h' ∧ SortedSeg leB f f' lo hi ∧ Kept2 A B w w'

set_option maxHeartbeats 1000000 in
set_option maxRecDepth 100000 in
theorem mergeSort_any : ∀ (fuel A B n lo hi : Nat) (f h : Nat → ByteArray) (w : World), hi - lo ≤ fuel → lo ≤ hi → hi ≤ n → n ≤ 1048576 → A ≠ B → SRow w A n f → SRow w B n h →
    Calls Try.prog 35 #[.slice (some ⟨A, 0, none⟩) n n, .slice (some ⟨B, 0, none⟩) n n, .int .i64 lo, .int .i64 hi] w (Sorts A B n lo hi f w) := by
  intro fuel
  induction fuel with
  | zero =>
    intro A B n lo hi f h w hfu hlo hhi hn hne rA rB
    have e : lo = hi := by omega
    subst e
    go_enter Try.func35, Try.ntmps35
    go_wp2
    go_end0
    exact ⟨rfl, f, h, rA, rB, SortedSeg.short f (by omega), Kept2.refl _ _ _⟩
  | succ fuel ih =>
    intro A B n lo hi f h w hfu hlo hhi hn hne rA rB
    by_cases h2 : hi < lo + 2
    · have h2' : (hi : Int) - lo < 2 := by omega
      go_enter Try.func35, Try.ntmps35
      go_wp2
      go_end0
      exact ⟨rfl, f, h, rA, rB, SortedSeg.short f (by omega), Kept2.refl _ _ _⟩
    · have IH := ih
      obtain ⟨mid, hm⟩ : ∃ mid : Nat, mid = lo + (hi - lo) / 2 := ⟨_, rfl⟩
      have h2' : ¬ (hi : Int) - lo < 2 := by omega
      have hm1 : lo < mid := by omega
      have hm2 : mid < hi := by omega
      have hmi : (lo : Int) + ((hi : Int) - lo) / 2 = mid := by omega
      clear hm ih
      have IHH : Hid (∀ (A B n lo hi : Nat) (f h : Nat → ByteArray) (w : World), hi - lo ≤ fuel → lo ≤ hi → hi ≤ n → n ≤ 1048576 → A ≠ B → SRow w A n f → SRow w B n h →
    Calls Try.prog 35 #[.slice (some ⟨A, 0, none⟩) n n, .slice (some ⟨B, 0, none⟩) n n, .int .i64 lo, .int .i64 hi] w (Sorts A B n lo hi f w)) := IH
      clear IH
      go_enter Try.func35, Try.ntmps35
      go_wp2_with fail
      refine (IHH.out A B n lo mid f h w (by omega) (by omega) (by omega) hn hne rA rB).mono ?_
      rintro e w1 ⟨rfl, f1, h1, rA1, rB1, s1, k1⟩
      clear rA rB
      go_wp2_with fail
      refine (IHH.out A B n mid hi f1 h1 w1 (by omega) (by omega) (by omega) hn hne rA1 rB1).mono ?_
      rintro e w2 ⟨rfl, f2, h2, rA2, rB2, s2, k2⟩
      clear rA1 rB1 IHH
      go_wp2
      go_loopw [9, 10, 11] (fun vi vj vk wr => ∃ i j k : Nat, vi = .int .i64 i ∧ vj = .int .i64 j ∧ vk = .int .i64 k ∧ ∃ h, MState leB f2 h lo mid hi i j k ∧ SRow wr A n f2 ∧ SRow wr B n h ∧ Kept2 A B w2 wr) (fun _ _ vk _ => hi - (intOf vk).toNat)
      case atStart => exact ⟨lo, mid, lo, rfl, rfl, rfl, h2, MState.start _ (by omega) (by omega), rA2, rB2, Kept2.refl _ _ _⟩
      case round =>
        obtain ⟨i, j, k, rfl, rfl, rfl, h, ms, rA, rB, kp⟩ := hrel
        clear rA2 rB2
        have li := ms.li
        have im := ms.im
        have mj := ms.mj
        have jh := ms.jh
        have KK : Hid (k + mid = i + j) := ms.kk
        by_cases hk : k < hi
        · have cB : wr.cell? ⟨B, k, none⟩ = some (.string (h k)) := Row.cell rB (by omega)
          have fB : wr.frozen? ⟨B, k, none⟩ = false := Row.frozen rB k
          by_cases hj : j < hi
          · have d1 : decide (hi ≤ j) = false := decide_eq_false (by omega)
            have cJ : wr.cell? ⟨A, j, none⟩ = some (.string (f2 j)) := Row.cell rA (by omega)
            by_cases hi' : i < mid
            · have cI : wr.cell? ⟨A, i, none⟩ = some (.string (f2 i)) := Row.cell rA (by omega)
              cases hle : leB (f2 i) (f2 j) with
              | true =>
                have ht : (Op.bytesLess (f2 i).toList (f2 j).toList || (f2 i).toList == (f2 j).toList) = true := hle
                go_wp2
                go_quiet (fail)
                go_wp2
                go_roundw
                case rel => exact ⟨i + 1, j, k + 1, by go_num, rfl, by go_num, upd h k (f2 i), ms.left (by omega) (.inr hle), Row.other (rA.drewN _) (by exact hne) _, Row.setf (rB.drewN _) k (f2 i), (kp.drewN _).set (.inr rfl) _⟩
                case measure => simp [intOf]; omega
              | false =>
                have ht : (Op.bytesLess (f2 i).toList (f2 j).toList || (f2 i).toList == (f2 j).toList) = false := hle
                go_wp2
                go_quiet (fail)
                go_wp2
                go_roundw
                case rel => exact ⟨i, j + 1, k + 1, rfl, by go_num, by go_num, upd h k (f2 j), ms.right hj (.inr hle), Row.other (rA.drewN _) (by exact hne) _, Row.setf (rB.drewN _) k (f2 j), (kp.drewN _).set (.inr rfl) _⟩
                case measure => simp [intOf]; omega
            · have d2 : decide (i < mid) = false := decide_eq_false (by omega)
              go_wp2
              go_quiet (fail)
              go_wp2
              go_roundw
              case rel => exact ⟨i, j + 1, k + 1, rfl, by go_num, by go_num, upd h k (f2 j), ms.right hj (.inl (by omega)), Row.other (rA.drewN _) (by exact hne) _, Row.setf (rB.drewN _) k (f2 j), (kp.drewN _).set (.inr rfl) _⟩
              case measure => simp [intOf]; omega
          · have d1 : decide (hi ≤ j) = true := decide_eq_true (by omega)
            have hi' : i < mid := by have := KK.out; omega
            have cI : wr.cell? ⟨A, i, none⟩ = some (.string (f2 i)) := Row.cell rA (by omega)
            go_wp2
            go_quiet (fail)
            go_wp2
            go_roundw
            case rel => exact ⟨i + 1, j, k + 1, by go_num, rfl, by go_num, upd h k (f2 i), ms.left (by omega) (.inl (by omega)), Row.other (rA.drewN _) (by exact hne) _, Row.setf (rB.drewN _) k (f2 i), (kp.drewN _).set (.inr rfl) _⟩
            case measure => simp [intOf]; omega
        · have hd := ms.done (by omega)
          have HD : Hid (seg h lo hi = (seg f2 lo mid).merge (seg f2 mid hi) leB) := hd
          clear hd
          go_wp2
          go_loopw [11] (fun vk wx => ∃ k : Nat, vk = .int .i64 k ∧ lo ≤ k ∧ k ≤ hi ∧ ∃ f3, SRow wx A n f3 ∧ SRow wx B n h ∧ (∀ j, lo ≤ j → j < k → f3 j = h j) ∧ (∀ j, (j < lo ∨ k ≤ j) → f3 j = f2 j) ∧ Kept2 A B w2 wx) (fun vk _ => hi - (intOf vk).toNat)
          case atStart => exact ⟨lo, rfl, Nat.le_refl _, hlo, f2, rA, rB, fun j h1 h2 => by omega, fun j _ => rfl, kp⟩
          case round =>
            obtain ⟨k', rfl, hk1, hk2, f3, rA', rB', he1, he2, kp'⟩ := hrel
            have E1 : Hid (∀ j, lo ≤ j → j < k' → f3 j = h j) := he1
            have E2 : Hid (∀ j, (j < lo ∨ k' ≤ j) → f3 j = f2 j) := he2
            clear he1 he2 rA rB kp
            by_cases hlt : k' < hi
            · have cB : wr.cell? ⟨B, k', none⟩ = some (.string (h k')) := Row.cell rB' (by omega)
              have cA : wr.cell? ⟨A, k', none⟩ = some (.string (f3 k')) := Row.cell rA' (by omega)
              have fA : wr.frozen? ⟨A, k', none⟩ = false := Row.frozen rA' k'
              go_wp2
              go_roundw
              case rel =>
                refine ⟨k' + 1, by go_num, by omega, by omega, upd f3 k' (h k'), Row.setf rA' k' (h k'), Row.other rB' (by exact hne.symm) _, fun j h1 h2 => ?_, fun j hj => ?_, kp'.set (.inl rfl) _⟩
                · by_cases e : j = k'
                  · rw [e, upd_same]
                  · rw [upd_other f3 _ e]; exact E1.out j h1 (by omega)
                · rw [upd_other f3 _ (by omega)]; exact E2.out j (by omega)
              case measure => simp [intOf]; omega
            · go_wp2
              go_end0
              refine ⟨rfl, f3, h, rA', rB', ?_, k1.trans (k2.trans kp')⟩
              refine SortedSeg.merged (le := leB) leB_trans leB_total (by omega) (by omega) s1 s2 (fun _ _ _ _ => rfl) ?_ (fun j hj => E2.out j (by omega))
              rw [← HD.out]
              exact seg_congr fun j h1 h2 => E1.out j h1 (by omega)

/-- A fresh sorted copy comes back; nothing that was there has turned. -/
def RetsSorted (len : Nat) (f : Nat → ByteArray) (w : World) (e : Ending) (w' : World) : Prop :=
  ∃ b f', e = .returned (.slice (some ⟨b, 0, none⟩) len len) ∧ SRow w' b len f' ∧ SortedSeg leB f f' 0 len ∧ Below w.heap.size w w'

theorem sortedCopy_copied {f g f' : Nat → ByteArray} {n : Nat} (h : ∀ j, j < n → g j = f j) (s : SortedSeg leB g f' 0 n) : SortedSeg leB f (fun j => if j < n then f' j else f j) 0 n := by
  have e : seg (fun j => if j < n then f' j else f j) 0 n = seg f' 0 n := seg_congr fun j _ hj => by simp [hj]
  have e2 : seg g 0 n = seg f 0 n := seg_congr fun j _ hj => h j hj
  refine ⟨fun j hj => ?_, by rw [e]; exact s.srt, by rw [e, ← e2]; exact s.prm⟩
  have : ¬ j < n := by omega
  simp [this]

set_option maxHeartbeats 1000000 in
set_option maxRecDepth 100000 in
theorem sortedCopy_any (a : Option Addr) (len cap : Nat) (f : Nat → ByteArray) (w : World) (hm : len ≤ 1048576) (h : Strs w a len f) :
    Calls Try.prog 22 #[.slice a len cap] w (RetsSorted len f w) := by
  obtain ⟨i0, hi, hz0, hz1, hz2⟩ := info_parts Try.info9
  go_enter Try.func22, Try.ntmps22
  go_wp2_with (first
    | (at_make; refine wpList_make_row _ rfl _ _ 22 rfl 9 i0 (.string ByteArray.empty) 16 Try.underlying22 hi hz0 hz1 hz2 rfl _ _ len rfl rfl rfl rfl (by omega) (by omega) ?_; intro w1 hrow hbel hsz)
    | go_in)
  go_loopw [4] (fun i wr => ∃ k : Nat, k ≤ len ∧ i = .int .i64 k ∧ ∃ g : Nat → ByteArray, SRow wr w.heap.size len g ∧ (∀ j, j < k → g j = f j) ∧ Below w.heap.size w wr) (fun i _ => len - (intOf i).toNat)
  case atStart => exact ⟨0, Nat.zero_le _, rfl, fun _ => ByteArray.empty, hrow, fun j hj => by omega, hbel⟩
  case round =>
    obtain ⟨k, hk, rfl, g, hr, hg, hb⟩ := hrel
    clear hrow hbel hsz
    have HG : Hid (∀ j, j < k → g j = f j) := hg
    clear hg
    by_cases hlt : k < len
    · have hfz : wr.frozen? ⟨w.heap.size, k, none⟩ = false := Row.frozen hr k
      have hcl : wr.cell? ⟨w.heap.size, k, none⟩ = some (.string (g k)) := Row.cell hr hlt
      rcases h with h | ⟨b, off, rfl, hb0, hc, hs⟩
      · omega
      · have hck : wr.cell? ⟨b, off + k, none⟩ = some (.string (f k)) := (hb.cell (p := ⟨b, off + k, none⟩) hb0).trans (hc k hlt)
        clear hc hs
        go_wp2
        go_roundw
        case rel =>
          refine ⟨k + 1, by omega, by go_num, upd g k (f k), Row.setf hr k (f k), fun j hj => ?_, hb.setCell (Nat.le_refl _) _⟩
          by_cases e : j = k
          · rw [e, upd_same]
          · rw [upd_other g _ e]; exact HG.out j (by omega)
        case measure => simp [intOf]; omega
    · have hwlt := Row.lt hr
      go_wp2_with (first
        | (at_make; refine wpList_make_row _ rfl _ _ 22 rfl 9 i0 (.string ByteArray.empty) 16 Try.underlying22 hi hz0 hz1 hz2 rfl _ _ len rfl rfl rfl rfl (by omega) (by omega) ?_; intro w2 hrow2 hbel2 hsz2)
        | fail)
      refine (mergeSort_any len w.heap.size wr.heap.size len 0 len g (fun _ => ByteArray.empty) w2 (by omega) (by omega) (Nat.le_refl _) hm (by omega) (Row.below hr hbel2 hwlt) hrow2).mono ?_
      rintro e w3 ⟨rfl, f', h', rA, rB, srt, kp⟩
      go_wp2
      go_ret
      refine ⟨_, _, rfl, Row.congr rA ?_, sortedCopy_copied (fun j hj => HG.out j (by omega)) srt, (hb.trans (hbel2.mono (Nat.le_of_lt hwlt))).trans (kp.below (Nat.le_refl _) (by omega))⟩
      intro j hj
      simp [hj]

end Go.Proofs.Qxb6603406a
