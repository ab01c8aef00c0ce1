/-
  Seat b6603406a: what objectList.holdsOneOf answers, whatever the two lists.
-/
import Derived.Test.Qxb6603406aBase
import Derived.Maps.OwnSet
namespace Go.Proofs.Qxb6603406a
open Go.ChangeShapes Go.WideShapes Go.ChangeAt Go.RowKit Go.Maps Go.WideMaps

/-- It returns a bool that says whether P; nothing that was there has turned. -/
def RetsG (P : Prop) (w : World) (e : Ending) (w' : World) : Prop := ∃ b : Bool, e = .returned (.bool b) ∧ (b = true ↔ P) ∧ Below w.heap.size w w'
theorem RetsG.mk {P : Prop} {w w' : World} (b : Bool) (h : b = true ↔ P) (hb : Below w.heap.size w w') : RetsG P w (.returned (.bool b)) w' := ⟨b, rfl, h, hb⟩

/-! ### the set of the first k strings -/
def keyL (s : ByteArray) : Lit := .string s.data.toList
def Sm (f : Nat → ByteArray) (k : Nat) : DataW Unit := setOf (.agg []) ((List.range k).map fun j => keyL (f j))
theorem Sm_zero (f : Nat → ByteArray) : Sm f 0 = .map [] := by simp [Sm, setOf]
theorem Sm_succ (f : Nat → ByteArray) (k : Nat) : Sm f (k + 1) = (Sm f k).put (keyL (f k)) (.agg []) := by
  unfold Sm
  rw [List.range_succ, List.map_append, List.map_singleton, setOf_snoc]
theorem has_Sm (f : Nat → ByteArray) (k : Nat) (x : ByteArray) : Maps.has (Sm f k) (keyL x) = true ↔ Among f k x := by
  unfold Sm
  rw [has_setOf _ _ _ (fun y hy => by obtain ⟨_, _, rfl⟩ := List.mem_map.1 hy; trivial), List.any_map, List.any_eq_true]
  constructor
  · rintro ⟨j, hj, h⟩
    refine ⟨j, List.mem_range.1 hj, ?_⟩
    have h' : ((f j).data.toList == x.data.toList) = true := h
    exact bytes_inj (by simpa using h')
  · rintro ⟨j, hj, rfl⟩
    refine ⟨j, List.mem_range.2 hj, ?_⟩
    show ((f j).data.toList == (f j).data.toList) = true
    simp

theorem law9 : Keyed Try.prog 9 := string_keyed Try.underlying9
theorem zero52 (w : World) : (zeroValue 52).run Try.prog w = .ok (.agg #[]) w := by kernel_rfl
theorem key_ok {s : ByteArray} (h : s.size ≤ maxLen) : keyOf Try.prog 9 (.string s) = some (keyL s) := keyOf_string_mk Try.underlying9 h
theorem makeMap_hint (n : Int) (w : World) : (Instr.makeMap 29 (some (.int .i64 n))).run Try.prog w = .ok (.map (some w.heap.size)) (w.alloc (.map #[] 0)) := by kernel_rfl

set_option maxHeartbeats 1000000 in
set_option maxRecDepth 100000 in
theorem holdsOneOf_le (a : Option Addr) (la ca : Nat) (f : Nat → ByteArray) (b : Option Addr) (lb cb : Nat) (g : Nat → ByteArray) (w : World) (hla : la ≤ 1048576) (hlb : lb ≤ 1048576)
    (ha : Strs w a la f) (hb : Strs w b lb g) (hle : la ≤ lb) :
    Calls Try.prog 32 #[.slice a la ca, .slice b lb cb] w (RetsG (Meet f la g lb) w) := by
  have d1 : decide (lb < la) = false := decide_eq_false (by omega)
  by_cases h8 : la ≤ 8
  · have d2 : decide ((la : Int) ≤ 8) = true := decide_eq_true (by omega)
    go_enter Try.func32, Try.ntmps32
    go_wp2
    go_loop [30] (fun i => ∃ k : Nat, k ≤ la ∧ i = .int .i64 k ∧ ∀ j, j < k → ¬ Among g lb (f j)) (fun i => la - (intOf i).toNat)
    case atStart => exact ⟨0, Nat.zero_le _, rfl, fun j hj => by omega⟩
    case round =>
      obtain ⟨k, hk, rfl, hno⟩ := hrel
      have HNO : Hid (∀ j, j < k → ¬ Among g lb (f j)) := hno
      clear hno
      by_cases hlt : k < la
      · have hC := contains_any b lb cb g (f k) w (by unfold maxLen; omega) hb
        rcases ha with ha | ⟨bb, off, rfl, hb0, hc, hs⟩
        · omega
        · have hck := hc k hlt
          clear hc hs
          go_wp2_with fail
          refine hC.mono ?_
          rintro e w' ⟨r, rfl, hr, rfl⟩
          clear hC
          cases r with
          | true =>
            have hA := hr.1 rfl
            clear hr
            go_wp2
            go_ret
            exact RetsG.mk _ ⟨fun _ => by obtain ⟨j, hj, e⟩ := hA; exact ⟨k, j, hlt, hj, e.symm⟩, fun _ => rfl⟩ (Below.refl _ _)
          | false =>
            have hA : ¬ Among g lb (f k) := fun h => by have := hr.2 h; cases this
            clear hr
            go_wp2
            go_round
            case rel =>
              refine ⟨k + 1, by omega, by go_num, fun j hj => ?_⟩
              by_cases e : j = k
              · rw [e]; exact hA
              · exact HNO.out j (by omega)
            case measure => simp [intOf]; omega
      · go_wp2
        go_ret
        exact RetsG.mk _ ⟨fun h => by simp at h, fun ⟨i, j, hi, hj, e⟩ => absurd ⟨j, hj, e.symm⟩ (HNO.out i (by omega))⟩ (Below.refl _ _)
  · have d2 : decide ((la : Int) ≤ 8) = false := decide_eq_false (by omega)
    have hmm := makeMap_hint
    have hsa := ha.sizes
    have HSA : Hid (∀ j, j < la → (f j).size ≤ maxLen) := hsa
    have hsb := hb.sizes
    have HSB : Hid (∀ j, j < lb → (g j).size ≤ maxLen) := hsb
    clear hsa hsb
    go_enter Try.func32, Try.ntmps32
    go_wp2
    go_loopw [43] (fun i wr => ∃ k : Nat, k ≤ la ∧ i = .int .i64 k ∧ wr.ownsMap Try.prog 9 (unitElem (H := Unit)) w.heap.size k (Sm f k) ∧ Below w.heap.size w wr) (fun i _ => la - (intOf i).toNat)
    case atStart => exact ⟨0, Nat.zero_le _, rfl, by rw [Sm_zero]; exact World.ownsMap_made _ _ _ _, (Below.refl _ _).alloc (Nat.le_refl _) _⟩
    case round =>
      obtain ⟨k, hk, rfl, hown, hbl⟩ := hrel
      by_cases hlt : k < la
      · rcases ha with ha | ⟨bb, off, rfl, hb0, hc, hs⟩
        · omega
        · have hck : wr.cell? ⟨bb, off + k, none⟩ = some (.string (f k)) := (hbl.cell (p := ⟨bb, off + k, none⟩) hb0).trans (hc k hlt)
          have hkey := key_ok (HSA.out k hlt)
          clear hc hs
          go_wp2_with (first
            | (at_mapUpdate; refine wpList_mapUpdate_own _ rfl _ _ _ 29 rfl 9 52 law9 Try.underlying29 (unitElem (H := Unit)) w.heap.size k _ rfl hown (by unfold maxLen; omega) _ _ _ rfl rfl hkey _ [] unitElem_mk ?_; intro w1 hown1 hgrow1)
            | go_in)
          go_roundw
          case rel => exact ⟨k + 1, by omega, by go_num, (Sm_succ f k).symm ▸ hown1, hbl.grown hgrow1 hbl.size (fun j hj => by cases hj; exact Nat.le_refl _)⟩
          case measure => simp [intOf]; omega
      · have hkl : k = la := by omega
        subst hkl
        go_wp2
        go_loopw [53] (fun i wx => ∃ j : Nat, j ≤ lb ∧ i = .int .i64 j ∧ wx.ownsMap Try.prog 9 (unitElem (H := Unit)) w.heap.size k (Sm f k) ∧ Below w.heap.size w wx ∧ ∀ i, i < j → ¬ Among f k (g i)) (fun i _ => lb - (intOf i).toNat)
        case atStart => exact ⟨0, Nat.zero_le _, rfl, hown, hbl, fun j hj => by omega⟩
        case round =>
          obtain ⟨j, hj, rfl, hown', hbl', hno⟩ := hrel
          have HNO : Hid (∀ i, i < j → ¬ Among f k (g i)) := hno
          clear hno hown hbl
          by_cases hlt' : j < lb
          · rcases hb with hb | ⟨bb, off, rfl, hb0, hc, hs⟩
            · omega
            · have hck : wr.cell? ⟨bb, off + j, none⟩ = some (.string (g j)) := (hbl'.cell (p := ⟨bb, off + j, none⟩) hb0).trans (hc j hlt')
              have hkey := key_ok (HSB.out j hlt')
              have hhas := has_Sm f k (g j)
              clear hc hs
              cases hbit : Maps.has (Sm f k) (keyL (g j)) with
              | true =>
                have hA := hhas.1 hbit
                clear hhas
                go_wp2_with (first
                  | (at_lookup; refine wpList_lookup_own_unit _ rfl _ _ 29 rfl 9 52 law9 Try.underlying29 (zero52 _) w.heap.size k _ rfl hown' _ _ rfl hkey ?_)
                  | go_in)
                go_ret
                exact RetsG.mk _ ⟨fun _ => by obtain ⟨i, hi, e⟩ := hA; exact ⟨i, j, hi, hlt', e⟩, fun _ => rfl⟩ (hbl'.alloc hbl'.size _)
              | false =>
                have hA : ¬ Among f k (g j) := fun h => by rw [hhas.2 h] at hbit; cases hbit
                clear hhas
                go_wp2_with (first
                  | (at_lookup; refine wpList_lookup_own_unit _ rfl _ _ 29 rfl 9 52 law9 Try.underlying29 (zero52 _) w.heap.size k _ rfl hown' _ _ rfl hkey ?_)
                  | go_in)
                go_roundw
                case rel =>
                  refine ⟨j + 1, by omega, by go_num, hown'.alloc _, hbl'.alloc hbl'.size _, fun i hi => ?_⟩
                  by_cases e : i = j
                  · rw [e]; exact hA
                  · exact HNO.out i (by omega)
                case measure => simp [intOf]; omega
          · go_wp2
            go_ret
            exact RetsG.mk _ ⟨fun h => by simp at h, fun ⟨i, j', hi, hj', e⟩ => absurd ⟨i, hi, e⟩ (HNO.out j' (by omega))⟩ hbl'
set_option maxHeartbeats 1000000 in
set_option maxRecDepth 100000 in
theorem holdsOneOf_gt (a : Option Addr) (la ca : Nat) (f : Nat → ByteArray) (b : Option Addr) (lb cb : Nat) (g : Nat → ByteArray) (w : World) (hla : la ≤ 1048576) (hlb : lb ≤ 1048576)
    (ha : Strs w a la f) (hb : Strs w b lb g) (hle : la < lb) :
    Calls Try.prog 32 #[.slice b lb cb, .slice a la ca] w (RetsG (Meet f la g lb) w) := by
  have d1 : decide (la < lb) = true := decide_eq_true (by omega)
  by_cases h8 : la ≤ 8
  · have d2 : decide ((la : Int) ≤ 8) = true := decide_eq_true (by omega)
    go_enter Try.func32, Try.ntmps32
    go_wp2
    go_loop [30] (fun i => ∃ k : Nat, k ≤ la ∧ i = .int .i64 k ∧ ∀ j, j < k → ¬ Among g lb (f j)) (fun i => la - (intOf i).toNat)
    case atStart => exact ⟨0, Nat.zero_le _, rfl, fun j hj => by omega⟩
    case round =>
      obtain ⟨k, hk, rfl, hno⟩ := hrel
      have HNO : Hid (∀ j, j < k → ¬ Among g lb (f j)) := hno
      clear hno
      by_cases hlt : k < la
      · have hC := contains_any b lb cb g (f k) w (by unfold maxLen; omega) hb
        rcases ha with ha | ⟨bb, off, rfl, hb0, hc, hs⟩
        · omega
        · have hck := hc k hlt
          clear hc hs
          go_wp2_with fail
          refine hC.mono ?_
          rintro e w' ⟨r, rfl, hr, rfl⟩
          clear hC
          cases r with
          | true =>
            have hA := hr.1 rfl
            clear hr
            go_wp2
            go_ret
            exact RetsG.mk _ ⟨fun _ => by obtain ⟨j, hj, e⟩ := hA; exact ⟨k, j, hlt, hj, e.symm⟩, fun _ => rfl⟩ (Below.refl _ _)
          | false =>
            have hA : ¬ Among g lb (f k) := fun h => by have := hr.2 h; cases this
            clear hr
            go_wp2
            go_round
            case rel =>
              refine ⟨k + 1, by omega, by go_num, fun j hj => ?_⟩
              by_cases e : j = k
              · rw [e]; exact hA
              · exact HNO.out j (by omega)
            case measure => simp [intOf]; omega
      · go_wp2
        go_ret
        exact RetsG.mk _ ⟨fun h => by simp at h, fun ⟨i, j, hi, hj, e⟩ => absurd ⟨j, hj, e.symm⟩ (HNO.out i (by omega))⟩ (Below.refl _ _)
  · have d2 : decide ((la : Int) ≤ 8) = false := decide_eq_false (by omega)
    have hmm := makeMap_hint
    have hsa := ha.sizes
    have HSA : Hid (∀ j, j < la → (f j).size ≤ maxLen) := hsa
    have hsb := hb.sizes
    have HSB : Hid (∀ j, j < lb → (g j).size ≤ maxLen) := hsb
    clear hsa hsb
    go_enter Try.func32, Try.ntmps32
    go_wp2
    go_loopw [43] (fun i wr => ∃ k : Nat, k ≤ la ∧ i = .int .i64 k ∧ wr.ownsMap Try.prog 9 (unitElem (H := Unit)) w.heap.size k (Sm f k) ∧ Below w.heap.size w wr) (fun i _ => la - (intOf i).toNat)
    case atStart => exact ⟨0, Nat.zero_le _, rfl, by rw [Sm_zero]; exact World.ownsMap_made _ _ _ _, (Below.refl _ _).alloc (Nat.le_refl _) _⟩
    case round =>
      obtain ⟨k, hk, rfl, hown, hbl⟩ := hrel
      by_cases hlt : k < la
      · rcases ha with ha | ⟨bb, off, rfl, hb0, hc, hs⟩
        · omega
        · have hck : wr.cell? ⟨bb, off + k, none⟩ = some (.string (f k)) := (hbl.cell (p := ⟨bb, off + k, none⟩) hb0).trans (hc k hlt)
          have hkey := key_ok (HSA.out k hlt)
          clear hc hs
          go_wp2_with (first
            | (at_mapUpdate; refine wpList_mapUpdate_own _ rfl _ _ _ 29 rfl 9 52 law9 Try.underlying29 (unitElem (H := Unit)) w.heap.size k _ rfl hown (by unfold maxLen; omega) _ _ _ rfl rfl hkey _ [] unitElem_mk ?_; intro w1 hown1 hgrow1)
            | go_in)
          go_roundw
          case rel => exact ⟨k + 1, by omega, by go_num, (Sm_succ f k).symm ▸ hown1, hbl.grown hgrow1 hbl.size (fun j hj => by cases hj; exact Nat.le_refl _)⟩
          case measure => simp [intOf]; omega
      · have hkl : k = la := by omega
        subst hkl
        go_wp2
        go_loopw [53] (fun i wx => ∃ j : Nat, j ≤ lb ∧ i = .int .i64 j ∧ wx.ownsMap Try.prog 9 (unitElem (H := Unit)) w.heap.size k (Sm f k) ∧ Below w.heap.size w wx ∧ ∀ i, i < j → ¬ Among f k (g i)) (fun i _ => lb - (intOf i).toNat)
        case atStart => exact ⟨0, Nat.zero_le _, rfl, hown, hbl, fun j hj => by omega⟩
        case round =>
          obtain ⟨j, hj, rfl, hown', hbl', hno⟩ := hrel
          have HNO : Hid (∀ i, i < j → ¬ Among f k (g i)) := hno
          clear hno hown hbl
          by_cases hlt' : j < lb
          · rcases hb with hb | ⟨bb, off, rfl, hb0, hc, hs⟩
            · omega
            · have hck : wr.cell? ⟨bb, off + j, none⟩ = some (.string (g j)) := (hbl'.cell (p := ⟨bb, off + j, none⟩) hb0).trans (hc j hlt')
              have hkey := key_ok (HSB.out j hlt')
              have hhas := has_Sm f k (g j)
              clear hc hs
              cases hbit : Maps.has (Sm f k) (keyL (g j)) with
              | true =>
                have hA := hhas.1 hbit
                clear hhas
                go_wp2_with (first
                  | (at_lookup; refine wpList_lookup_own_unit _ rfl _ _ 29 rfl 9 52 law9 Try.underlying29 (zero52 _) w.heap.size k _ rfl hown' _ _ rfl hkey ?_)
                  | go_in)
                go_ret
                exact RetsG.mk _ ⟨fun _ => by obtain ⟨i, hi, e⟩ := hA; exact ⟨i, j, hi, hlt', e⟩, fun _ => rfl⟩ (hbl'.alloc hbl'.size _)
              | false =>
                have hA : ¬ Among f k (g j) := fun h => by rw [hhas.2 h] at hbit; cases hbit
                clear hhas
                go_wp2_with (first
                  | (at_lookup; refine wpList_lookup_own_unit _ rfl _ _ 29 rfl 9 52 law9 Try.underlying29 (zero52 _) w.heap.size k _ rfl hown' _ _ rfl hkey ?_)
                  | go_in)
                go_roundw
                case rel =>
                  refine ⟨j + 1, by omega, by go_num, hown'.alloc _, hbl'.alloc hbl'.size _, fun i hi => ?_⟩
                  by_cases e : i = j
                  · rw [e]; exact hA
                  · exact HNO.out i (by omega)
                case measure => simp [intOf]; omega
          · go_wp2
            go_ret
            exact RetsG.mk _ ⟨fun h => by simp at h, fun ⟨i, j', hi, hj', e⟩ => absurd ⟨i, hi, e⟩ (HNO.out j' (by omega))⟩ hbl'

theorem holdsOneOf_any (a : Option Addr) (la ca : Nat) (f : Nat → ByteArray) (b : Option Addr) (lb cb : Nat) (g : Nat → ByteArray) (w : World) (hla : la ≤ 1048576) (hlb : lb ≤ 1048576)
    (ha : Strs w a la f) (hb : Strs w b lb g) : Calls Try.prog 32 #[.slice a la ca, .slice b lb cb] w (RetsG (Meet f la g lb) w) := by
  by_cases h : la ≤ lb
  · exact holdsOneOf_le a la ca f b lb cb g w hla hlb ha hb h
  · refine (holdsOneOf_gt b lb cb g a la ca f w hlb hla hb ha (by omega)).mono ?_
    rintro e w' ⟨r, rfl, hr, hb⟩
    exact ⟨r, rfl, hr.trans ⟨Meet.symm, Meet.symm⟩, hb⟩

set_option maxHeartbeats 400000 in
theorem zzHolds_any (a : Option Addr) (la ca : Nat) (f : Nat → ByteArray) (b : Option Addr) (lb cb : Nat) (g : Nat → ByteArray) (w : World) (hla : la ≤ 1048576) (hlb : lb ≤ 1048576)
    (ha : Strs w a la f) (hb : Strs w b lb g) : Calls Try.prog 14 #[.slice a la ca, .slice b lb cb] w (RetsG (Meet f la g lb) w) := by
  have hC := holdsOneOf_any a la ca f b lb cb g w hla hlb ha hb
  go_enter Try.func14, Try.ntmps14
  go_wp2_with fail
  refine hC.mono ?_
  rintro e w' ⟨r, rfl, hr, hb'⟩
  have HR : Hid (r = true ↔ Meet f la g lb) := hr
  clear hr hC
  go_wp2
  go_ret
  exact RetsG.mk _ HR.out hb'
end Go.Proofs.Qxb6603406a
