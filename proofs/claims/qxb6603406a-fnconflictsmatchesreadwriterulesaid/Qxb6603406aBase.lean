/-
  Seat b6603406a: words and walks that all five statements share.
-/
import Derived.Test.Qxb6603406aRows
import Derived.WalkKit
import Derived.ProofKit
import Derived.OpenShut
import Derived.Test.Qxb6603406aMem
import Derived.Maps.OwnSet
namespace Go.Proofs.Qxb6603406a
open Go.ChangeShapes Go.WideShapes Go.ChangeAt Go.RowKit

/-- The slice '.slice a len _' reads, in the world w, as the strings f 0, f 1, .. , f (len - 1). -/
def Strs (w : World) (a : Option Addr) (len : Nat) (f : Nat → ByteArray) : Prop :=
  len = 0 ∨ ∃ b off, a = some ⟨b, off, none⟩ ∧ b < w.heap.size ∧ (∀ j, j < len → w.cell? ⟨b, off + j, none⟩ = some (.string (f j))) ∧ ∀ j, j < len → (f j).size ≤ maxLen

theorem Strs.below {w w' : World} {a : Option Addr} {len : Nat} {f : Nat → ByteArray} (h : Strs w a len f) (hb : Below w.heap.size w w') : Strs w' a len f := by
  rcases h with h | ⟨b, off, ha, hlt, hc, hs⟩
  · exact .inl h
  · exact .inr ⟨b, off, ha, Nat.lt_of_lt_of_le hlt hb.size, fun j hj => (hb.cell (p := ⟨b, off + j, none⟩) hlt).trans (hc j hj), hs⟩

/-- It returns some bool; the world stands. -/
def RetsB (w : World) (e : Ending) (w' : World) : Prop := ∃ b : Bool, e = .returned (.bool b) ∧ w' = w
theorem RetsB.mk (w : World) (b : Bool) : RetsB w (.returned (.bool b)) w := ⟨b, rfl, rfl⟩
/-- It returns some count: below nought, or at most the limit, and then the list is short; the world stands. -/
def RetsN (t : Int) (len : Nat) (w : World) (e : Ending) (w' : World) : Prop := ∃ n : Int, e = .returned (.int .i64 n) ∧ (-1 ≤ n ∧ n ≤ 1048576 ∧ (0 ≤ n → 0 ≤ t ∧ len ≤ 65536)) ∧ w' = w
theorem RetsN.mk (t : Int) (len : Nat) (w : World) (n : Int) (h : -1 ≤ n ∧ n ≤ 1048576 ∧ (0 ≤ n → 0 ≤ t ∧ len ≤ 65536)) : RetsN t len w (.returned (.int .i64 n)) w := ⟨n, rfl, h, rfl⟩

set_option maxHeartbeats 400000 in
set_option maxRecDepth 100000 in
theorem zzSelf_any (a : Option Addr) (len cap : Nat) (f : Nat → ByteArray) (w : World) (hm : len ≤ maxLen) (h : Strs w a len f) :
    Calls Try.prog 17 #[.slice a len cap] w (RetsB w) := by
  unfold maxLen at hm
  by_cases hbig : 1048576 < len
  · go_enter Try.func17, Try.ntmps17
    go_wp2
    go_ret
    exact RetsB.mk _ _
  · go_enter Try.func17, Try.ntmps17
    go_wp2
    go_loop [3, 4] (fun z i => ∃ k : Nat, k ≤ len ∧ i = .int .i64 k ∧ ∃ n : Int, 0 ≤ n ∧ n ≤ 1048576 ∧ z = .int .i64 n) (fun _ i => len - (intOf i).toNat)
    case atStart => exact ⟨0, Nat.zero_le _, rfl, len, by omega, by omega, rfl⟩
    case round =>
      obtain ⟨k, hk, rfl, n, hn0, hn1, rfl⟩ := hrel
      by_cases hlt : k < len
      · rcases h with h | ⟨b, off, rfl, hb, hc, hs⟩
        · omega
        · have hck := hc k hlt
          have hsk := hs k hlt
          unfold maxLen at hsk
          clear hc hs
          go_wp2
          · go_ret
            exact RetsB.mk _ _
          · go_ret
            exact RetsB.mk _ _
          · go_round
            case rel => exact ⟨k + 1, by omega, by go_num, n + (f k).size, by omega, by omega, rfl⟩
            case measure => simp [intOf]; omega
      · go_wp2
        go_ret
        exact RetsB.mk _ _

set_option maxHeartbeats 400000 in
set_option maxRecDepth 100000 in
theorem addBytes_any (t : Int) (a : Option Addr) (len cap : Nat) (f : Nat → ByteArray) (w : World) (ht : -1 ≤ t ∧ t ≤ 1048576) (hm : len ≤ maxLen) (h : Strs w a len f) :
    Calls Try.prog 12 #[.int .i64 t, .slice a len cap] w (RetsN t len w) := by
  unfold maxLen at hm
  obtain ⟨ht1, ht2⟩ := ht
  by_cases h1 : t < 0
  · go_enter Try.func12, Try.ntmps12
    go_wp2
    go_ret
    exact RetsN.mk _ _ _ _ (by omega)
  by_cases h2 : 65536 < len
  · go_enter Try.func12, Try.ntmps12
    go_wp2
    go_ret
    exact RetsN.mk _ _ _ _ (by omega)
  by_cases h3 : 1048576 - t < 16 * len
  · go_enter Try.func12, Try.ntmps12
    go_wp2
    go_ret
    exact RetsN.mk _ _ _ _ (by omega)
  go_enter Try.func12, Try.ntmps12
  go_wp2
  go_loop [0, 5] (fun z i => ∃ k : Nat, k ≤ len ∧ i = .int .i64 k ∧ ∃ n : Int, 0 ≤ n ∧ n ≤ 1048576 ∧ z = .int .i64 n) (fun _ i => len - (intOf i).toNat)
  case atStart => exact ⟨0, Nat.zero_le _, rfl, _, by omega, by omega, rfl⟩
  case round =>
    obtain ⟨k, hk, rfl, n, hn0, hn1, rfl⟩ := hrel
    by_cases hlt : k < len
    · rcases h with h | ⟨b, off, rfl, hb, hc, hs⟩
      · omega
      · have hck := hc k hlt
        have hsk := hs k hlt
        unfold maxLen at hsk
        clear hc hs
        go_wp2
        · go_ret
          exact RetsN.mk _ _ _ _ (by omega)
        · go_round
          case rel => exact ⟨k + 1, by omega, by go_num, n + (f k).size, by omega, by omega, rfl⟩
          case measure => simp [intOf]; omega
    · go_wp2
      go_ret
      exact RetsN.mk _ _ _ _ (by omega)

/-- It returns a bool that says whether P; the world stands. -/
def RetsP (P : Prop) (w : World) (e : Ending) (w' : World) : Prop := ∃ b : Bool, e = .returned (.bool b) ∧ (b = true ↔ P) ∧ w' = w
theorem RetsP.mk {P : Prop} (w : World) (b : Bool) (h : b = true ↔ P) : RetsP P w (.returned (.bool b)) w := ⟨b, rfl, h, rfl⟩
def RetsI (P : Prop) (w : World) (e : Ending) (w' : World) : Prop := ∃ n : Int, e = .returned (.int .i64 n) ∧ (0 ≤ n ↔ P) ∧ w' = w
theorem RetsI.mk {P : Prop} (w : World) (n : Int) (h : 0 ≤ n ↔ P) : RetsI P w (.returned (.int .i64 n)) w := ⟨n, rfl, h, rfl⟩

theorem eq_of_lists {x y : ByteArray} (h : (x.toList == y.toList) = true) : y = x := by
  rw [ByteArray.toList_eq, ByteArray.toList_eq] at h
  exact (bytes_inj (by simpa using h)).symm
theorem ne_of_lists {x y : ByteArray} (h : (x.toList == y.toList) = false) : y ≠ x := by
  rintro rfl
  simp at h

set_option maxHeartbeats 400000 in
set_option maxRecDepth 100000 in
theorem index_any (a : Option Addr) (len cap : Nat) (f : Nat → ByteArray) (x : ByteArray) (w : World) (hm : len ≤ maxLen) (h : Strs w a len f) :
    Calls Try.prog 41 #[.slice a len cap, .string x] w (RetsI (Among f len x) w) := by
  unfold maxLen at hm
  go_enter Try.func41, Try.ntmps41
  go_wp2
  go_loop [8] (fun i => ∃ k : Nat, k ≤ len ∧ i = .int .i64 k ∧ ∀ j, j < k → f j ≠ x) (fun i => len - (intOf i).toNat)
  case atStart => exact ⟨0, Nat.zero_le _, rfl, fun j hj => by omega⟩
  case round =>
    obtain ⟨k, hk, rfl, hno⟩ := hrel
    have HNO : Hid (∀ j, j < k → f j ≠ x) := hno
    clear hno
    by_cases hlt : k < len
    · rcases h with h | ⟨b, off, rfl, hb, hc, hs⟩
      · omega
      · have hck := hc k hlt
        clear hc hs
        go_wp2
        · have ht : (x.toList == (f k).toList) = true := by assumption
          go_ret
          exact RetsI.mk _ _ ⟨fun _ => ⟨k, hlt, eq_of_lists ht⟩, fun _ => by omega⟩
        · have ht : (x.toList == (f k).toList) = false := by assumption
          go_round
          case rel =>
            refine ⟨k + 1, by omega, by go_num, fun j hj => ?_⟩
            by_cases e : j = k
            · rw [e]; exact ne_of_lists ht
            · exact HNO.out j (by omega)
          case measure => simp [intOf]; omega
    · go_wp2
      go_ret
      exact RetsI.mk _ _ ⟨by omega, fun ⟨j, hj, e⟩ => absurd e (HNO.out j (by omega))⟩

set_option maxHeartbeats 400000 in
theorem contains_any (a : Option Addr) (len cap : Nat) (f : Nat → ByteArray) (x : ByteArray) (w : World) (hm : len ≤ maxLen) (h : Strs w a len f) :
    Calls Try.prog 39 #[.slice a len cap, .string x] w (RetsP (Among f len x) w) := by
  have hI := index_any a len cap f x w hm h
  go_enter Try.func39, Try.ntmps39
  go_wp2_with fail
  refine hI.mono ?_
  rintro e w' ⟨n, rfl, hn, rfl⟩
  have HN : Hid (0 ≤ n ↔ Among f len x) := hn
  clear hn
  go_wp2
  go_ret
  exact RetsP.mk _ _ (by rw [← HN.out]; simp)

/-- A fresh copy of the list comes back; nothing that was there has turned. -/
def RetsCopy (len : Nat) (f : Nat → ByteArray) (w : World) (e : Ending) (w' : World) : Prop :=
  ∃ a' cap', e = .returned (.slice a' len cap') ∧ Strs w' a' len f ∧ Below w.heap.size w w'

theorem Try.info9 : (Try.prog.info? 9).map (fun i => (i.zero, i.size, i.bytes)) = some (some (.string ByteArray.empty), 1, 16) := by kernel_rfl

theorem Strs.of_row {w : World} {b n : Nat} {f : Nat → ByteArray} (h : Row w b n 9 (fun j => .string (f j))) (hs : ∀ j, j < n → (f j).size ≤ maxLen) : Strs w (some ⟨b, 0, none⟩) n f :=
  .inr ⟨b, 0, rfl, h.lt, fun j hj => by rw [Nat.zero_add]; exact h.cell hj, hs⟩

theorem Strs.sizes {w : World} {a : Option Addr} {n : Nat} {f : Nat → ByteArray} (h : Strs w a n f) : ∀ j, j < n → (f j).size ≤ maxLen := by
  rcases h with h | ⟨_, _, _, _, _, hs⟩
  · intro j hj; omega
  · exact hs

set_option maxHeartbeats 400000 in
set_option maxRecDepth 100000 in
theorem clone_any (a : Option Addr) (len cap : Nat) (f : Nat → ByteArray) (w : World) (hm : len ≤ 1048576) (h : Strs w a len f) (hn : a = none → len = 0 ∧ cap = 0) :
    Calls Try.prog 13 #[.slice a len cap] w (RetsCopy len f w) := by
  obtain ⟨i0, hi, hz0, hz1, hz2⟩ := info_parts Try.info9
  have heq : ∀ (w : World) a n c, (binOp .eql 22 (.slice a n c) (.slice none 0 0)).run Try.prog w = .ok (.bool a.isNone) w := fun w a n c => Lib.run_eql_slice_nil w _ _ a n c 0 0 Try.underlying22
  cases a with
  | none =>
    obtain ⟨rfl, rfl⟩ := hn rfl
    go_enter Try.func13, Try.ntmps13
    go_wp2
    go_ret
    exact ⟨_, _, rfl, .inl rfl, Below.refl _ _⟩
  | some x =>
    have hs := h.sizes
    have HS : Hid (∀ j, j < len → (f j).size ≤ maxLen) := hs
    clear hs hn
    go_enter Try.func13, Try.ntmps13
    go_wp2_with (first
      | (at_make; refine wpList_make_row _ rfl _ _ 22 rfl 9 i0 (.string ByteArray.empty) 16 Try.underlying22 hi hz0 hz1 hz2 rfl _ _ len rfl rfl rfl rfl (by omega) (by omega) ?_; intro w1 hrow hbel hsz)
      | go_in)
    go_loopw [4] (fun i wr => ∃ k : Nat, k ≤ len ∧ i = .int .i64 k ∧ ∃ g : Nat → ByteArray, Row wr w.heap.size len 9 (fun j => .string (g j)) ∧ (∀ j, j < k → g j = f j) ∧ Below w.heap.size w wr) (fun i _ => len - (intOf i).toNat)
    case atStart => exact ⟨0, Nat.zero_le _, rfl, fun _ => ByteArray.empty, hrow, fun j hj => by omega, hbel⟩
    case round =>
      obtain ⟨k, hk, rfl, g, hr, hg, hb⟩ := hrel
      clear hrow hbel hsz
      have HR : Hid (Row wr w.heap.size len 9 (fun j => .string (g j))) := hr
      have HG : Hid (∀ j, j < k → g j = f j) := hg
      clear hr hg
      by_cases hlt : k < len
      · have hfz := HR.out.frozen k
        have hcl := HR.out.cell hlt
        rcases h with h | ⟨b, off, hx, hb0, hc, hs⟩
        · omega
        · cases hx
          have hck : wr.cell? ⟨b, off + k, none⟩ = some (.string (f k)) := (hb.cell (p := ⟨b, off + k, none⟩) hb0).trans (hc k hlt)
          clear hc hs
          go_wp2
          go_roundw
          case rel =>
            refine ⟨k + 1, by omega, by go_num, upd g k (f k), HR.out.setf k (f k), fun j hj => ?_, hb.setCell (Nat.le_refl _) _⟩
            by_cases e : j = k
            · rw [e, upd_same]
            · rw [upd_other g _ e]; exact HG.out j (by omega)
          case measure => simp [intOf]; omega
      · go_wp2
        go_ret
        refine ⟨_, _, rfl, Strs.of_row (HR.out.congr fun j hj => by rw [HG.out j (by omega)]) HS.out, hb⟩
end Go.Proofs.Qxb6603406a
