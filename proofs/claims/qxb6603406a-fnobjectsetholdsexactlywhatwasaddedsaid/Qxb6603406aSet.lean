/-
  Seat b6603406a: objectSet: holds and add, in both of its forms (a list of at most 32; a map).
-/
import Derived.Test.Qxb6603406aHolds
import Derived.Maps.AppendAt
namespace Go.Proofs.Qxb6603406a
open Go.ChangeShapes Go.WideShapes Go.ChangeAt Go.RowKit Go.Maps Go.WideMaps

/-- The two fields of the set. -/
def pair (v m : Value) (j : Nat) : Value := if j = 0 then v else m

/-- The set in block S as a list: it holds g 0, .. , g (n - 1), in a row of its own. -/
def OList (w : World) (S : Nat) (g : Nat → ByteArray) (n : Nat) : Prop :=
  ∃ a cap, Row w S 2 31 (pair (.slice a n cap) (.map none)) ∧ w.ownsRow (S + 1) 9 1 (.slice a n cap) n ((seg g 0 n).map Value.string) ∧ n ≤ 32
/-- The set in block S as a map. -/
def OMap (w : World) (S : Nat) (g : Nat → ByteArray) (n : Nat) : Prop :=
  ∃ v M, Row w S 2 31 (pair v (.map (some M))) ∧ S < M ∧ w.ownsMap Try.prog 9 (unitElem (H := Unit)) M n (Sm g n)
def OSet (w : World) (S : Nat) (g : Nat → ByteArray) (n : Nat) : Prop := (OList w S g n ∨ OMap w S g n) ∧ ∀ j, j < n → (g j).size ≤ maxLen

theorem grown_of_below {w w' : World} (h : Below w.heap.size w w') : w.grownBy w' none := ⟨h.os, h.tape, h.output, h.size, fun k hk _ => h.block k hk⟩

theorem OSet.below {w w' : World} {S n : Nat} {g : Nat → ByteArray} (h : OSet w S g n) (hb : Below w.heap.size w w') : OSet w' S g n := by
  obtain ⟨h | h, hs⟩ := h
  · obtain ⟨a, cap, hr, ho, hn⟩ := h
    refine ⟨.inl ⟨a, cap, Row.below hr hb (Row.lt hr), ho.kept (grown_of_below hb) ?_, hn⟩, hs⟩
    cases a with
    | none => exact .inl rfl
    | some x => exact .inr (by simp [Value.ownBlock])
  · obtain ⟨v, M, hr, hM, ho⟩ := h
    exact ⟨.inr ⟨v, M, Row.below hr hb (Row.lt hr), hM, ho.kept (grown_of_below hb) (by simp)⟩, hs⟩

theorem OSet.lt {w : World} {S n : Nat} {g : Nat → ByteArray} (h : OSet w S g n) : S < w.heap.size := by
  obtain ⟨⟨_, _, hr, _⟩ | ⟨_, _, hr, _⟩, _⟩ := h <;> exact Row.lt hr

/-- A row of strings that the call owns, read as a list. -/
theorem strs_of_owns {w : World} {base n cap : Nat} {a : Option Addr} {g : Nat → ByteArray} (h : w.ownsRow base 9 1 (.slice a n cap) n ((seg g 0 n).map Value.string)) (hs : ∀ j, j < n → (g j).size ≤ maxLen) : Strs w a n g := by
  obtain ⟨_, h | ⟨b, c, cur, hv, hb, hh, hn, hm, hsz, htk⟩⟩ := h
  · exact .inl h.2
  · simp only [Value.slice.injEq] at hv
    obtain ⟨rfl, _, _⟩ := hv
    refine .inr ⟨b, 0, rfl, (Array.getElem?_eq_some_iff.1 hh).1, fun j hj => ?_, hs⟩
    have e : (cur.toList.take (n * 1))[j]? = some (.string (g j)) := by
      rw [htk, List.getElem?_map, seg_get g (by omega), Nat.zero_add]
      rfl
    rw [List.getElem?_take] at e
    split at e
    · simp only [Nat.zero_add, World.cell?, hh]
      simpa using e
    · cases e

theorem neq_nil (w : World) (r : Option Nat) : (binOp .neq 29 (.map r) (.map none)).run Try.prog w = .ok (.bool (!r.isNone)) w := run_neq_map_nil w 29 9 52 r Try.underlying29

/-- It returns a bool that says whether P; the set in block S is as it was; nothing that was there has turned. -/
def RetsO (P : Prop) (S : Nat) (g : Nat → ByteArray) (n : Nat) (w : World) (e : Ending) (w' : World) : Prop :=
  ∃ b : Bool, e = .returned (.bool b) ∧ (b = true ↔ P) ∧ OSet w' S g n ∧ Below w.heap.size w w'

set_option maxHeartbeats 1000000 in
set_option maxRecDepth 100000 in
theorem holds_any (S n : Nat) (g : Nat → ByteArray) (x : ByteArray) (w : World) (h : OSet w S g n) (hx : x.size ≤ maxLen) :
    Calls Try.prog 36 #[.pointer (some ⟨S, 0, none⟩), .string x] w (RetsO (Among g n x) S g n w) := by
  have hset := h
  have hneq := neq_nil
  obtain ⟨⟨a, cap, hr, ho, hn⟩ | ⟨v, M, hr, hM, ho⟩, hs⟩ := h
  · have c0 : w.cell? ⟨S, 0, none⟩ = some (.slice a n cap) := Row.cell hr (by omega)
    have c1 : w.cell? ⟨S, 1, none⟩ = some (.map none) := Row.cell hr (by omega)
    have hC := contains_any a n cap g x w (by unfold maxLen; omega) (strs_of_owns ho hs)
    clear hr ho
    go_enter Try.func36, Try.ntmps36
    go_wp2_with fail
    refine hC.mono ?_
    rintro e w' ⟨r, rfl, hr, hw⟩
    subst hw
    clear hC
    have HR : Hid (r = true ↔ Among g n x) := hr
    clear hr
    go_wp2
    go_ret
    exact ⟨r, rfl, HR.out, hset, Below.refl _ _⟩
  · have c0 : w.cell? ⟨S, 0, none⟩ = some v := Row.cell hr (by omega)
    have c1 : w.cell? ⟨S, 1, none⟩ = some (.map (some M)) := Row.cell hr (by omega)
    have hkey := key_ok hx
    have HH : Hid (Maps.has (Sm g n) (keyL x) = true ↔ Among g n x) := has_Sm g n x
    go_enter Try.func36, Try.ntmps36
    go_wp2_with (first
      | (at_lookup; refine wpList_lookup_own_unit _ rfl _ _ 29 rfl 9 52 law9 Try.underlying29 (zero52 _) M n _ rfl ho _ _ rfl hkey ?_)
      | go_in)
    go_ret
    exact ⟨_, rfl, HH.out, hset.below ((Below.refl _ _).alloc (Nat.le_refl _) _), (Below.refl _ _).alloc (Nat.le_refl _) _⟩


theorem Sm_upd (g : Nat → ByteArray) (n : Nat) (x : ByteArray) : Sm (upd g n x) (n + 1) = (Sm g n).put (keyL x) (.agg []) := by
  rw [Sm_succ, upd_same]
  congr 1
  unfold Sm
  congr 1
  refine List.map_congr_left fun j hj => ?_
  have := List.mem_range.1 hj
  rw [upd_other g x (by omega)]

theorem among_upd (g : Nat → ByteArray) (n : Nat) (x y : ByteArray) : Among (upd g n x) (n + 1) y ↔ Among g n y ∨ y = x := by
  constructor
  · rintro ⟨j, hj, e⟩
    by_cases h : j = n
    · rw [h, upd_same] at e; exact .inr e.symm
    · rw [upd_other g x h] at e; exact .inl ⟨j, by omega, e⟩
  · rintro (⟨j, hj, e⟩ | e)
    · exact ⟨j, by omega, by rw [upd_other g x (by omega)]; exact e⟩
    · exact ⟨n, by omega, by rw [upd_same]; exact e.symm⟩

theorem sizes_upd {g : Nat → ByteArray} {n : Nat} {x : ByteArray} (h : ∀ j, j < n → (g j).size ≤ maxLen) (hx : x.size ≤ maxLen) : ∀ j, j < n + 1 → (upd g n x j).size ≤ maxLen := by
  intro j hj
  by_cases e : j = n
  · rw [e, upd_same]; exact hx
  · rw [upd_other g x e]; exact h j (by omega)

theorem slice_of_owns {w : World} {base n : Nat} {v : Value} {xs : List Value} (h : w.ownsRow base 9 1 v (n + 1) xs) : ∃ b cap, v = .slice (some ⟨b, 0, none⟩) (n + 1) cap ∧ base ≤ b := by
  obtain ⟨_, h | ⟨b, c, cur, hv, hb, _⟩⟩ := h
  · omega
  · exact ⟨b, c, hv, hb⟩

theorem row_after {w1 w2 : World} {S n : Nat} {v : Value} {xs : List Value} {p : Nat → Value} {o : Obj} (hrow : Row w1 S 2 31 p) (ho : w1.ownsRow (S + 1) 9 1 v n xs) (hg : (w1.alloc o).grownBy w2 v.ownBlock) : Row w2 S 2 31 p := by
  refine Row.block (hrow.alloc o) (hg.block S (hrow.alloc o).lt fun e => ?_)
  have := (ho.lt S e.symm).1
  omega

theorem Strs.kept {w w' : World} {a : Option Addr} {len : Nat} {f : Nat → ByteArray} {row : Option Nat} (h : Strs w a len f) (hg : w.grownBy w' row) (hne : ∀ b, a = some b → some b.block ≠ row) : Strs w' a len f := by
  rcases h with h | ⟨b, off, ha, hlt, hc, hs⟩
  · exact .inl h
  · refine .inr ⟨b, off, ha, Nat.lt_of_lt_of_le hlt hg.size, fun j hj => ?_, hs⟩
    rw [← hc j hj]
    exact World.cell?_of_block (hg.block b hlt (hne _ ha))

/-- What lies behind the append, its result stored into the set's first field. -/
theorem after_append {w w1 w2 : World} {S n gb cap cap' : Nat} {a : Option Addr} {g : Nat → ByteArray} {x : ByteArray} (hlt : S < w.heap.size) (b1 : Below w.heap.size w w1) (hrow : Row w1 S 2 31 (pair (.slice a n cap) (.map none)))
    (ho : w1.ownsRow (S + 1) 9 1 (.slice a n cap) n ((seg g 0 n).map Value.string))
    (hg2 : (w1.alloc (.cells #[.string x] 9)).grownBy w2 (Value.slice a n cap).ownBlock) (hown' : w2.ownsRow (S + 1) 9 1 (.slice (some ⟨gb, 0, none⟩) (n + 1) cap') (n + 1) ((seg g 0 n).map Value.string ++ [.string x])) :
    Row (w2.setCell ⟨S, 0, none⟩ (.slice (some ⟨gb, 0, none⟩) (n + 1) cap')) S 2 31 (pair (.slice (some ⟨gb, 0, none⟩) (n + 1) cap') (.map none)) ∧
    (w2.setCell ⟨S, 0, none⟩ (.slice (some ⟨gb, 0, none⟩) (n + 1) cap')).ownsRow (S + 1) 9 1 (.slice (some ⟨gb, 0, none⟩) (n + 1) cap') (n + 1) ((seg (upd g n x) 0 (n + 1)).map Value.string) ∧
    Below S w (w2.setCell ⟨S, 0, none⟩ (.slice (some ⟨gb, 0, none⟩) (n + 1) cap')) := by
  have hrow2 := row_after hrow ho hg2
  have hb1 := b1.size
  refine ⟨(hrow2.set 0 _).congr fun j _ => ?_, ?_, ?_⟩
  · unfold pair
    split <;> rfl
  · rw [seg_upd_snoc g x (Nat.zero_le _), List.map_append]
    exact ownsRow_setCell_below hown' (by simp) _
  · refine Below.setCell (Below.grown ((b1.mono (Nat.le_of_lt hlt)).alloc (by omega) _) hg2 (by simp; omega) fun k hk => ?_) (Nat.le_refl _) _
    have := (ho.lt k hk).1
    omega

/-- It returns a bool that says whether x is new; the set in block S now holds x too; what lies below S has not turned. -/
def RetsAdd (S : Nat) (g : Nat → ByteArray) (n : Nat) (x : ByteArray) (w : World) (e : Ending) (w' : World) : Prop :=
  ∃ b : Bool, e = .returned (.bool b) ∧ (b = true ↔ ¬ Among g n x) ∧ ∃ g' n', OSet w' S g' n' ∧ n' ≤ n + 1 ∧ (∀ y, Among g' n' y ↔ Among g n y ∨ y = x) ∧ Below S w w'

set_option maxHeartbeats 1000000 in
set_option maxRecDepth 100000 in
theorem add_any (S n : Nat) (g : Nat → ByteArray) (x : ByteArray) (w : World) (h : OSet w S g n) (hn : n ≤ 1048576) (hx : x.size ≤ maxLen) :
    Calls Try.prog 34 #[.pointer (some ⟨S, 0, none⟩), .string x] w (RetsAdd S g n x w) := by
  have hneq := neq_nil
  have hmm := makeMap_hint
  have hlt := h.lt
  obtain ⟨i0, hi, hz0, hz1, hz2⟩ := info_parts Try.info9
  have hH := holds_any S n g x w h hx
  have hkey := key_ok hx
  go_enter Try.func34, Try.ntmps34
  go_wp2_with fail
  refine hH.mono ?_
  rintro e w1 ⟨r, rfl, hr, hset, b1⟩
  clear hH h
  cases r with
  | true =>
    have hA := hr.1 rfl
    clear hr
    go_wp2
    go_ret
    refine ⟨_, rfl, ⟨fun h => (by simp at h), fun h => absurd hA h⟩, g, n, hset, by omega, fun y => ⟨.inl, fun h => ?_⟩, b1.mono (Nat.le_of_lt hlt)⟩
    rcases h with h | h
    · exact h
    · rw [h]; exact hA
  | false =>
    have hA : ¬ Among g n x := fun h => by have := hr.2 h; cases this
    clear hr
    obtain ⟨⟨a, cap, hrow, ho, hn32⟩ | ⟨v, M, hrow, hM, ho⟩, hs⟩ := hset
    · have HS : Hid (∀ j, j < n → (g j).size ≤ maxLen) := hs
      have c0 : w1.cell? ⟨S, 0, none⟩ = some (.slice a n cap) := Row.cell hrow (by omega)
      have c1 : w1.cell? ⟨S, 1, none⟩ = some (.map none) := Row.cell hrow (by omega)
      clear hs
      by_cases hbig : 32 < n + 1
      · have d1 : decide ((32 : Int) < (n : Int) + 1) = true := decide_eq_true (by omega)
        go_wp2_with (first
          | (at_builtin; refine wpList_append_own _ rfl _ _ 22 rfl (S + 1) 9 i0 (.string ByteArray.empty) 1 16 Try.underlying22 hi hz0 hz1 hz2 rfl (by decide) _ _ _ rfl (ho.alloc _) ⟨w1.heap.size, 0, none⟩ 1 1 [.string x] rfl rfl (cell_one_new _ _ _) (by intro u hu; simp at hu; subst hu; rfl) (by unfold maxLen; omega) (by omega) (by have := b1.size; simp; omega) ?_; intro v' w2 hown' hgrow2 hnil2; clear hnil2; have hg2 : (w1.alloc (.cells #[.string x] 9)).grownBy w2 (Value.slice a n cap).ownBlock := hgrow2; clear hgrow2; have hrow2 := row_after hrow ho hg2; have hS2 : S < w2.heap.size := Row.lt hrow2; have c0' : w2.cell? ⟨S, 0, none⟩ = some (.slice a n cap) := Row.cell hrow2 (by omega); have c1' : w2.cell? ⟨S, 1, none⟩ = some (.map none) := Row.cell hrow2 (by omega); have f0' : w2.frozen? ⟨S, 0, none⟩ = false := Row.frozen hrow2 0; have f1' : w2.frozen? ⟨S, 1, none⟩ = false := Row.frozen hrow2 1; obtain ⟨gb, cap', hv, hgb⟩ := slice_of_owns hown'; subst hv)
          | fail)
        obtain ⟨hrow3, hown3, hbel3⟩ := after_append hlt b1 hrow ho hg2 hown'
        have hrow4 : Row (((w2.setCell ⟨S, 0, none⟩ (.slice (some ⟨gb, 0, none⟩) (n + 1) cap')).setCell ⟨S, 1, none⟩ (.map (some w2.heap.size))).alloc (.map #[] 0)) S 2 31 (pair (.slice (some ⟨gb, 0, none⟩) (n + 1) cap') (.map (some w2.heap.size))) :=
          ((hrow3.set 1 _).congr fun j hj => by unfold pair; match j, hj with | 0, _ => rfl | 1, _ => rfl).alloc _
        have hown4 : (((w2.setCell ⟨S, 0, none⟩ (.slice (some ⟨gb, 0, none⟩) (n + 1) cap')).setCell ⟨S, 1, none⟩ (.map (some w2.heap.size))).alloc (.map #[] 0)).ownsRow (S + 1) 9 1 (.slice (some ⟨gb, 0, none⟩) (n + 1) cap') (n + 1) ((seg (upd g n x) 0 (n + 1)).map Value.string) :=
          (ownsRow_setCell_below hown3 (by simp) _).alloc _
        have hmap4 : (((w2.setCell ⟨S, 0, none⟩ (.slice (some ⟨gb, 0, none⟩) (n + 1) cap')).setCell ⟨S, 1, none⟩ (.map (some w2.heap.size))).alloc (.map #[] 0)).ownsMap Try.prog 9 (unitElem (H := Unit)) w2.heap.size 0 (Sm (upd g n x) 0) := by
          rw [Sm_zero]
          have := World.ownsMap_made ((w2.setCell ⟨S, 0, none⟩ (.slice (some ⟨gb, 0, none⟩) (n + 1) cap')).setCell ⟨S, 1, none⟩ (.map (some w2.heap.size))) Try.prog 9 (unitElem (H := Unit))
          simpa using this
        have hbel4 : Below S w (((w2.setCell ⟨S, 0, none⟩ (.slice (some ⟨gb, 0, none⟩) (n + 1) cap')).setCell ⟨S, 1, none⟩ (.map (some w2.heap.size))).alloc (.map #[] 0)) :=
          (hbel3.setCell (Nat.le_refl _) _).alloc (by simp; omega) _
        have hstr4 := strs_of_owns hown4 (sizes_upd HS.out hx)
        have SZ : Hid (∀ j, j < n + 1 → (upd g n x j).size ≤ maxLen) := sizes_upd HS.out hx
        have AU : Hid (∀ y, Among (upd g n x) (n + 1) y ↔ Among g n y ∨ y = x) := among_upd g n x
        have hgblt : gb < w2.heap.size := (hown'.lt gb rfl).2
        clear hrow3 hown3 hbel3 hown4 hrow2 hown' hg2 hrow ho c0 c1 c0' c1' f0' f1' HS hkey b1
        generalize upd g n x = g' at *
        go_loopw [52] (fun i wr => ∃ k : Nat, k ≤ n + 1 ∧ i = .int .i64 k ∧ Row wr S 2 31 (pair (.slice (some ⟨gb, 0, none⟩) (n + 1) cap') (.map (some w2.heap.size))) ∧ wr.ownsMap Try.prog 9 (unitElem (H := Unit)) w2.heap.size k (Sm g' k) ∧ Strs wr (some ⟨gb, 0, none⟩) (n + 1) g' ∧ Below S w wr) (fun i _ => n + 1 - (intOf i).toNat)
        case atStart => exact ⟨0, Nat.zero_le _, rfl, hrow4, hmap4, hstr4, hbel4⟩
        case round =>
          obtain ⟨k, hk, rfl, hr, hm, hstr, hb⟩ := hrel
          clear hrow4 hmap4 hstr4 hbel4
          by_cases hlt' : k < n + 1
          · have c1 : wr.cell? ⟨S, 1, none⟩ = some (.map (some w2.heap.size)) := Row.cell hr (by omega)
            have hkey := key_ok (SZ.out k hlt')
            have hck : wr.cell? ⟨gb, k, none⟩ = some (.string (g' k)) := by
              rcases hstr with h | ⟨b, off, he, hb0, hc, hs⟩
              · omega
              · cases he
                have := hc k hlt'
                rwa [Nat.zero_add] at this
            go_wp2_with (first
              | (at_mapUpdate; refine wpList_mapUpdate_own _ rfl _ _ _ 29 rfl 9 52 law9 Try.underlying29 (unitElem (H := Unit)) w2.heap.size k _ rfl hm (by unfold maxLen; omega) _ _ _ rfl rfl hkey _ [] unitElem_mk ?_; intro w3 hown1 hgrow1)
              | go_in)
            go_roundw
            case rel =>
              exact ⟨k + 1, by omega, by go_num, Row.block hr (hgrow1.block S (Row.lt hr) (by simp; omega)), (Sm_succ g' k).symm ▸ hown1, hstr.kept hgrow1 (fun b hb => by cases hb; simp; omega),
                hb.grown hgrow1 (Nat.le_of_lt (Row.lt hr)) (fun j hj => by cases hj; exact Nat.le_of_lt hS2)⟩
            case measure => simp [intOf]; omega
          · have hkn : k = n + 1 := by omega
            subst hkn
            go_wp2
            go_ret
            exact ⟨_, rfl, ⟨fun _ => hA, fun _ => rfl⟩, g', n + 1, ⟨.inr ⟨_, _, hr, hS2, hm⟩, SZ.out⟩, Nat.le_refl _, AU.out, hb⟩
      · have d1 : decide ((32 : Int) < (n : Int) + 1) = false := decide_eq_false (by omega)
        go_wp2_with (first
          | (at_builtin; refine wpList_append_own _ rfl _ _ 22 rfl (S + 1) 9 i0 (.string ByteArray.empty) 1 16 Try.underlying22 hi hz0 hz1 hz2 rfl (by decide) _ _ _ rfl (ho.alloc _) ⟨w1.heap.size, 0, none⟩ 1 1 [.string x] rfl rfl (cell_one_new _ _ _) (by intro u hu; simp at hu; subst hu; rfl) (by unfold maxLen; omega) (by omega) (by have := b1.size; simp; omega) ?_; intro v' w2 hown' hgrow2 hnil2; clear hnil2; have hg2 : (w1.alloc (.cells #[.string x] 9)).grownBy w2 (Value.slice a n cap).ownBlock := hgrow2; clear hgrow2; have hrow2 := row_after hrow ho hg2; have hS2 : S < w2.heap.size := Row.lt hrow2; have c0' : w2.cell? ⟨S, 0, none⟩ = some (.slice a n cap) := Row.cell hrow2 (by omega); have c1' : w2.cell? ⟨S, 1, none⟩ = some (.map none) := Row.cell hrow2 (by omega); have f0' : w2.frozen? ⟨S, 0, none⟩ = false := Row.frozen hrow2 0; have f1' : w2.frozen? ⟨S, 1, none⟩ = false := Row.frozen hrow2 1; obtain ⟨gb, cap', hv, hgb⟩ := slice_of_owns hown'; subst hv)
          | fail)
        go_wp2
        go_ret
        obtain ⟨hrow3, hown3, hbel3⟩ := after_append hlt b1 hrow ho hg2 hown'
        exact ⟨_, rfl, ⟨fun _ => hA, fun _ => rfl⟩, upd g n x, n + 1, ⟨.inl ⟨_, _, hrow3, hown3, by omega⟩, sizes_upd HS.out hx⟩, Nat.le_refl _, among_upd g n x, hbel3⟩
    · have c0 : w1.cell? ⟨S, 0, none⟩ = some v := Row.cell hrow (by omega)
      have c1 : w1.cell? ⟨S, 1, none⟩ = some (.map (some M)) := Row.cell hrow (by omega)
      go_wp2_with (first
        | (at_mapUpdate; refine wpList_mapUpdate_own _ rfl _ _ _ 29 rfl 9 52 law9 Try.underlying29 (unitElem (H := Unit)) M n _ rfl ho (by unfold maxLen; omega) _ _ _ rfl rfl hkey _ [] unitElem_mk ?_; intro w2 hown2 hgrow2)
        | go_in)
      go_ret
      refine ⟨_, rfl, ⟨fun _ => hA, fun _ => rfl⟩, upd g n x, n + 1, ⟨.inr ⟨v, M, Row.block hrow (hgrow2.block S (Row.lt hrow) (by simp; omega)), hM, ?_⟩, sizes_upd hs hx⟩, Nat.le_refl _, among_upd g n x, ?_⟩
      · rw [Sm_upd]; exact hown2
      · exact (b1.mono (Nat.le_of_lt hlt)).grown hgrow2 (Nat.le_of_lt (Row.lt hrow)) (fun k hk => by cases hk; omega)


set_option maxHeartbeats 400000 in
theorem zzAdd_any (S n : Nat) (g : Nat → ByteArray) (x : ByteArray) (w : World) (h : OSet w S g n) (hn : n ≤ 1048576) (hx : x.size ≤ maxLen) :
    Calls Try.prog 20 #[.pointer (some ⟨S, 0, none⟩), .string x] w (RetsAdd S g n x w) := by
  have hC := add_any S n g x w h hn hx
  go_enter Try.func20, Try.ntmps20
  go_wp2_with fail
  refine hC.mono ?_
  rintro e w' ⟨r, rfl, hr⟩
  have HR : Hid ((r = true ↔ ¬ Among g n x) ∧ ∃ g' n', OSet w' S g' n' ∧ n' ≤ n + 1 ∧ (∀ y, Among g' n' y ↔ Among g n y ∨ y = x) ∧ Below S w w') := hr
  clear hr hC
  go_wp2
  go_ret
  exact ⟨r, rfl, HR.out⟩

set_option maxHeartbeats 400000 in
theorem zzHoldsSet_any (S n : Nat) (g : Nat → ByteArray) (x : ByteArray) (w : World) (h : OSet w S g n) (hx : x.size ≤ maxLen) :
    Calls Try.prog 23 #[.pointer (some ⟨S, 0, none⟩), .string x] w (RetsO (Among g n x) S g n w) := by
  have hC := holds_any S n g x w h hx
  go_enter Try.func23, Try.ntmps23
  go_wp2_with fail
  refine hC.mono ?_
  rintro e w' ⟨r, rfl, hr⟩
  have HR : Hid ((r = true ↔ Among g n x) ∧ OSet w' S g n ∧ Below w.heap.size w w') := hr
  clear hr hC
  go_wp2
  go_ret
  exact ⟨r, rfl, HR.out⟩

/-- The zero value of the set's struct, just laid: an empty set. -/
theorem OSet.made (w : World) (g : Nat → ByteArray) : OSet (w.alloc (.cells #[.slice none 0 0, .map none] 31)) w.heap.size g 0 := by
  refine ⟨.inl ⟨none, 0, ⟨#[.slice none 0 0, .map none], (MapKept.heap_alloc w _).1, rfl, fun j hj => ?_⟩, ?_, by omega⟩, fun j hj => by omega⟩
  · match j, hj with
    | 0, _ => rfl
    | 1, _ => rfl
  · rw [seg_nil g (Nat.le_refl _)]
    exact World.ownsRow_nil _ _ _ _

end Go.Proofs.Qxb6603406a
