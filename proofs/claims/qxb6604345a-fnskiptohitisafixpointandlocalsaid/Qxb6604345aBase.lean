/-
  Seat b6604345a: words and walks that both statements share: lists of strings, the byte counters, the copy.
-/
import Derived.Test.Qxb6604345aRows
import Derived.WalkKit
import Derived.ProofKit
import Derived.OpenShut
import Derived.Test.Qxb6604345aMem
namespace Go.Proofs.Qxb6604345a
open Go.ChangeShapes Go.WideShapes Go.ChangeAt Go.RowKit

/-- The slice '.slice a len _' reads, in the world w, as the strings f 0, f 1, .. , f (len - 1). -/
def Strs (w : World) (a : Option Addr) (len : Nat) (f : Nat → ByteArray) : Prop :=
  len = 0 ∨ ∃ b off, a = some ⟨b, off, none⟩ ∧ b < w.heap.size ∧ (∀ j, j < len → w.cell? ⟨b, off + j, none⟩ = some (.string (f j))) ∧ ∀ j, j < len → (f j).size ≤ maxLen

theorem Strs.below {w w' : World} {a : Option Addr} {len : Nat} {f : Nat → ByteArray} (h : Strs w a len f) (hb : Below w.heap.size w w') : Strs w' a len f := by
  rcases h with h | ⟨b, off, ha, hlt, hc, hs⟩
  · exact .inl h
  · exact .inr ⟨b, off, ha, Nat.lt_of_lt_of_le hlt hb.size, fun j hj => (hb.cell (p := ⟨b, off + j, none⟩) hlt).trans (hc j hj), hs⟩

/-- It returns some bool, true only if no string is long; the world stands. -/
def RetsZ (len : Nat) (f : Nat → ByteArray) (w : World) (e : Ending) (w' : World) : Prop := ∃ b : Bool, e = .returned (.bool b) ∧ (b = true → ∀ j, j < len → (f j).size ≤ 1048576) ∧ w' = w
theorem RetsZ.no (len : Nat) (f : Nat → ByteArray) (w : World) : RetsZ len f w (.returned (.bool false)) w := ⟨false, rfl, (fun h => Bool.noConfusion h), rfl⟩

set_option maxHeartbeats 1000000 in
set_option maxRecDepth 100000 in
theorem zzScan_any (a : Option Addr) (len cap : Nat) (f : Nat → ByteArray) (x : Int) (s : ByteArray) (w : World) (hm : len ≤ maxLen) (h : Strs w a len f) (hs0 : s.size ≤ maxLen) :
    Calls Try.prog 7 #[.slice a len cap, .int .i64 x, .string s] w (RetsZ len f w) := by
  unfold maxLen at hm hs0
  by_cases hbig : 1048576 < len
  · go_enter Try.func7, Try.ntmps7
    go_wp2
    go_ret
    exact RetsZ.no _ _ _
  · go_enter Try.func7, Try.ntmps7
    go_wp2
    go_loop [7, 8] (fun z i => ∃ k : Nat, k ≤ len ∧ i = .int .i64 k ∧ (∃ n : Int, 0 ≤ n ∧ n ≤ 1048576 ∧ z = .int .i64 n) ∧ ∀ j, j < k → (f j).size ≤ 1048576) (fun _ i => len - (intOf i).toNat)
    case atStart => exact ⟨0, Nat.zero_le _, rfl, ⟨len, by omega, by omega, rfl⟩, fun j hj => by omega⟩
    case round =>
      obtain ⟨k, hk, rfl, ⟨n, hn0, hn1, rfl⟩, hall⟩ := hrel
      have ALL : Hid (∀ j, j < k → (f j).size ≤ 1048576) := hall
      clear hall
      by_cases hlt : k < len
      · rcases h with h | ⟨b, off, rfl, hb, hc, hs⟩
        · omega
        · have hck := hc k hlt
          have hsk := hs k hlt
          unfold maxLen at hsk
          clear hc hs
          go_wp2
          · go_ret
            exact RetsZ.no _ _ _
          · go_ret
            exact RetsZ.no _ _ _
          · go_round
            case rel =>
              refine ⟨k + 1, by omega, by go_num, ⟨n + (f k).size, by omega, by omega, rfl⟩, fun j hj => ?_⟩
              by_cases e : j = k
              · rw [e]; omega
              · exact ALL.out j (by omega)
            case measure => simp [intOf]; omega
      · go_wp2
        · go_ret
          exact RetsZ.no _ _ _
        · go_ret
          exact RetsZ.no _ _ _
        · go_ret
          exact ⟨_, rfl, fun _ j hj => ALL.out j (by omega), rfl⟩

set_option maxHeartbeats 1000000 in
set_option maxRecDepth 100000 in
theorem zzFix_any (a : Option Addr) (len cap : Nat) (f : Nat → ByteArray) (x : Int) (s : ByteArray) (w : World) (hm : len ≤ maxLen) (h : Strs w a len f) (hs0 : s.size ≤ maxLen) :
    Calls Try.prog 11 #[.slice a len cap, .int .i64 x, .string s] w (RetsZ len f w) := by
  unfold maxLen at hm hs0
  by_cases hbig : 1048576 < len
  · go_enter Try.func11, Try.ntmps11
    go_wp2
    go_ret
    exact RetsZ.no _ _ _
  · go_enter Try.func11, Try.ntmps11
    go_wp2
    go_loop [7, 8] (fun z i => ∃ k : Nat, k ≤ len ∧ i = .int .i64 k ∧ (∃ n : Int, 0 ≤ n ∧ n ≤ 1048576 ∧ z = .int .i64 n) ∧ ∀ j, j < k → (f j).size ≤ 1048576) (fun _ i => len - (intOf i).toNat)
    case atStart => exact ⟨0, Nat.zero_le _, rfl, ⟨len, by omega, by omega, rfl⟩, fun j hj => by omega⟩
    case round =>
      obtain ⟨k, hk, rfl, ⟨n, hn0, hn1, rfl⟩, hall⟩ := hrel
      have ALL : Hid (∀ j, j < k → (f j).size ≤ 1048576) := hall
      clear hall
      by_cases hlt : k < len
      · rcases h with h | ⟨b, off, rfl, hb, hc, hs⟩
        · omega
        · have hck := hc k hlt
          have hsk := hs k hlt
          unfold maxLen at hsk
          clear hc hs
          go_wp2
          · go_ret
            exact RetsZ.no _ _ _
          · go_ret
            exact RetsZ.no _ _ _
          · go_round
            case rel =>
              refine ⟨k + 1, by omega, by go_num, ⟨n + (f k).size, by omega, by omega, rfl⟩, fun j hj => ?_⟩
              by_cases e : j = k
              · rw [e]; omega
              · exact ALL.out j (by omega)
            case measure => simp [intOf]; omega
      · go_wp2
        · go_ret
          exact RetsZ.no _ _ _
        · go_ret
          exact RetsZ.no _ _ _
        · go_ret
          exact ⟨_, rfl, fun _ j hj => ALL.out j (by omega), rfl⟩

/-- A fresh copy of the list comes back; nothing that was there has turned. -/
def RetsCopy (len : Nat) (f : Nat → ByteArray) (w : World) (e : Ending) (w' : World) : Prop :=
  ∃ a', e = .returned (.slice a' len len) ∧ Strs w' a' len f ∧ Below w.heap.size w w'

theorem Try.info9 : (Try.prog.info? 9).map (fun i => (i.zero, i.size, i.bytes)) = some (some (.string ByteArray.empty), 1, 16) := by kernel_rfl

theorem Strs.of_row {w : World} {b n : Nat} {f : Nat → ByteArray} (h : Row w b n 9 (fun j => .string (f j))) (hs : ∀ j, j < n → (f j).size ≤ maxLen) : Strs w (some ⟨b, 0, none⟩) n f :=
  .inr ⟨b, 0, rfl, h.lt, fun j hj => by rw [Nat.zero_add]; exact h.cell hj, hs⟩

theorem Strs.sizes {w : World} {a : Option Addr} {n : Nat} {f : Nat → ByteArray} (h : Strs w a n f) : ∀ j, j < n → (f j).size ≤ maxLen := by
  rcases h with h | ⟨_, _, _, _, _, hs⟩
  · intro j hj; omega
  · exact hs

set_option maxHeartbeats 400000 in
set_option maxRecDepth 100000 in
theorem clone_any (a : Option Addr) (len cap : Nat) (f : Nat → ByteArray) (w : World) (hm : len ≤ 1048576) (h : Strs w a len f) (hn : a = none → len = 0 ∧ cap = 0) :
    Calls Try.prog 8 #[.slice a len cap] w (RetsCopy len f w) := by
  obtain ⟨i0, hi, hz0, hz1, hz2⟩ := info_parts Try.info9
  have heq : ∀ (w : World) a n c, (binOp .eql 22 (.slice a n c) (.slice none 0 0)).run Try.prog w = .ok (.bool a.isNone) w := fun w a n c => Lib.run_eql_slice_nil w _ _ a n c 0 0 Try.underlying22
  cases a with
  | none =>
    obtain ⟨rfl, rfl⟩ := hn rfl
    go_enter Try.func8, Try.ntmps8
    go_wp2
    go_ret
    exact ⟨_, rfl, .inl rfl, Below.refl _ _⟩
  | some x =>
    have hs := h.sizes
    have HS : Hid (∀ j, j < len → (f j).size ≤ maxLen) := hs
    clear hs hn
    go_enter Try.func8, Try.ntmps8
    go_wp2_with (first
      | (at_make; refine wpList_make_row _ rfl _ _ 22 rfl 9 i0 (.string ByteArray.empty) 16 Try.underlying22 hi hz0 hz1 hz2 rfl _ _ len rfl rfl rfl rfl (by omega) (by omega) ?_; intro w1 hrow hbel hsz)
      | go_in)
    go_loopw [4] (fun i wr => ∃ k : Nat, k ≤ len ∧ i = .int .i64 k ∧ ∃ g : Nat → ByteArray, Row wr w.heap.size len 9 (fun j => .string (g j)) ∧ (∀ j, j < k → g j = f j) ∧ Below w.heap.size w wr) (fun i _ => len - (intOf i).toNat)
    case atStart => exact ⟨0, Nat.zero_le _, rfl, fun _ => ByteArray.empty, hrow, fun j hj => by omega, hbel⟩
    case round =>
      obtain ⟨k, hk, rfl, g, hr, hg, hb⟩ := hrel
      clear hrow hbel hsz
      have HR : Hid (Row wr w.heap.size len 9 (fun j => .string (g j))) := hr
      have HG : Hid (∀ j, j < k → g j = f j) := hg
      clear hr hg
      by_cases hlt : k < len
      · have hfz := HR.out.frozen k
        have hcl := HR.out.cell hlt
        rcases h with h | ⟨b, off, hx, hb0, hc, hs⟩
        · omega
        · cases hx
          have hck : wr.cell? ⟨b, off + k, none⟩ = some (.string (f k)) := (hb.cell (p := ⟨b, off + k, none⟩) hb0).trans (hc k hlt)
          clear hc hs
          go_wp2
          go_roundw
          case rel =>
            refine ⟨k + 1, by omega, by go_num, upd g k (f k), HR.out.setf k (f k), fun j hj => ?_, hb.setCell (Nat.le_refl _) _⟩
            by_cases e : j = k
            · rw [e, upd_same]
            · rw [upd_other g _ e]; exact HG.out j (by omega)
          case measure => simp [intOf]; omega
      · go_wp2
        go_ret
        refine ⟨_, rfl, Strs.of_row (HR.out.congr fun j hj => by rw [HG.out j (by omega)]) HS.out, hb⟩
end Go.Proofs.Qxb6604345a
