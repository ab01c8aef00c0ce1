/-
  Seat b6603406a: 'Rows.FnObjectSetAddAnswersFirstOccurrenceSaid' proved.
-/
import Derived.Test.Qxb6603406aSet
import Derived.Test.Qxb6603406aFirst
import Derived.Test.Qxb6603406aBytes1
import Derived.Test.Qxb6603406aOpen
import Derived.Deep.RegionWith
namespace Go.Proofs.Qxb6603406a.fnObjectSetAddAnswersFirstOccurrence
open Go.ChangeShapes Go.WideShapes Go.ChangeAt Go.RowKit
open Go.ChangeMaps (open_string shut_string)
set_option linter.unusedVariables false

/-- It returns true; nothing that was there has turned. -/
def Truly (w : World) (e : Ending) (w' : World) : Prop := e = .returned (.bool true) ∧ Below w.heap.size w w'

theorem among_succ {f : Nat → ByteArray} {k : Nat} {y : ByteArray} : Among f (k + 1) y ↔ Among f k y ∨ y = f k := by
  constructor
  · rintro ⟨j, hj, e⟩
    by_cases h : j = k
    · rw [h] at e; exact .inr e.symm
    · exact .inl ⟨j, by omega, e⟩
  · rintro (⟨j, hj, e⟩ | e)
    · exact ⟨j, by omega, e⟩
    · exact ⟨k, by omega, e.symm⟩

theorem fresh_iff {f : Nat → ByteArray} {k : Nat} : (¬ Among f k (f k)) ↔ ∀ j, j < k → f j ≠ f k :=
  ⟨fun h j hj e => h ⟨j, hj, e⟩, fun h ⟨j, hj, e⟩ => h j hj e⟩

set_option maxHeartbeats 1000000 in
set_option maxRecDepth 100000 in
theorem walk (a0 : Option Addr) (len0 cap0 : Nat) (f0 : Nat → ByteArray) (w : World) (s0 : Strs w a0 len0 f0) (m0 : len0 ≤ maxLen) (n0 : a0 = none → len0 = 0 ∧ cap0 = 0) :
    Calls Try.prog 6 #[.slice a0 len0 cap0] w (Truly w) := by
  have hZ := zzAddBytes_any a0 len0 cap0 f0 w m0 s0
  go_enter Try.func6, Try.ntmps6
  go_wp2_with fail
  refine hZ.mono ?_
  rintro e w' ⟨r, rfl, hw⟩
  subst hw
  clear hZ
  cases r with
  | false =>
    go_wp2
    go_ret
    exact ⟨rfl, Below.refl _ _⟩
  | true =>
    go_wp2_with fail
    refine (addBytes_any 0 a0 len0 cap0 f0 _ (by omega) m0 s0).mono ?_
    rintro e w' ⟨n, rfl, ⟨hn1, hn2, hn3⟩, hw⟩
    subst hw
    by_cases hneg : n < 0
    · go_wp2
      go_ret
      exact ⟨rfl, Below.refl _ _⟩
    · have hlen := (hn3 (by omega)).2
      clear hn3
      go_wp2_with fail
      refine (clone_any a0 len0 cap0 f0 _ (by omega) s0 n0).mono ?_
      rintro e w1 ⟨a1, cap1, rfl, s1, b1⟩
      go_wp2_with fail
      refine (first_any a1 len0 cap1 f0 _ (by omega) s1).mono ?_
      rintro e w2 ⟨F, fst, rfl, rF, hfst, b2⟩
      have s2 := s1.below b2
      have b12 := b1.trans (b2.mono b1.size)
      have HF : Hid (∀ i, i < len0 → (fst i = true ↔ ∀ j, j < i → f0 j ≠ f0 i)) := hfst
      have SZ : Hid (∀ j, j < len0 → (f0 j).size ≤ maxLen) := s2.sizes
      clear hfst s0 s1 b1 b2 n0
      go_wp2
      go_loopw [5] (fun i wr => ∃ k : Nat, k ≤ len0 ∧ i = .int .i64 k ∧ ∃ g n, OSet wr w2.heap.size g n ∧ n ≤ k ∧ (∀ y, Among g n y ↔ Among f0 k y) ∧ Below w2.heap.size w2 wr) (fun i _ => len0 - (intOf i).toNat)
      case atStart => exact ⟨0, Nat.zero_le _, rfl, fun _ => ByteArray.empty, 0, OSet.made _ _, Nat.le_refl _, fun y => ⟨fun ⟨j, hj, _⟩ => by omega, fun ⟨j, hj, _⟩ => by omega⟩, (Below.refl _ _).alloc (Nat.le_refl _) _⟩
      case round =>
        obtain ⟨k, hk, rfl, g, m, hset, hmk, ham, hbl⟩ := hrel
        have HAM : Hid (∀ y, Among g m y ↔ Among f0 k y) := ham
        clear ham
        by_cases hlt : k < len0
        · have sr := s2.below hbl
          have rFr : BRow wr F len0 fst := Row.below rF hbl (Row.lt rF)
          have hFlt := Row.lt rF
          have cF : wr.cell? ⟨F, k, none⟩ = some (.bool (fst k)) := Row.cell rFr hlt
          have hsz := SZ.out k hlt
          have HB : Hid (fst k = true ↔ ¬ Among g m (f0 k)) := by
            rw [HF.out k hlt, ← fresh_iff, HAM.out]
            exact Iff.rfl
          generalize fst k = bit at *
          rcases s2 with s2 | ⟨b, off, rfl, hb0, hc, hs⟩
          · omega
          · have hck : wr.cell? ⟨b, off + k, none⟩ = some (.string (f0 k)) := (hbl.cell (p := ⟨b, off + k, none⟩) hb0).trans (hc k hlt)
            clear hc hs sr rFr
            go_wp2
            go_region_with (go_at_call 20; refine (zzAdd_any w2.heap.size m g (f0 k) _ ?_ (by omega) hsz).mono ?_; exact hset.below ⟨rfl, rfl, rfl, Nat.le_refl _, fun _ _ => rfl⟩; rintro e w3 ⟨r, rfl, hr, g', m', hset', hm', ham', hbl'⟩; have cF' : w3.cell? ⟨F, k, none⟩ = some (.bool bit) := (hbl'.cell (p := ⟨F, k, none⟩) hFlt).trans cF; have er : r = bit := (by rw [Bool.eq_iff_iff, hr, HB.out]); subst er; have HAM' : Hid (∀ y, Among g' m' y ↔ Among g m y ∨ y = f0 k) := ham'; clear hr ham')
            all_goals
              go_wp2
              go_roundw
              case rel => exact ⟨k + 1, by omega, by go_num, g', m', OSet.below hset' ⟨rfl, rfl, rfl, Nat.le_refl _, fun _ _ => rfl⟩, by omega, fun y => (HAM'.out y).trans ((or_congr (HAM.out y) Iff.rfl).trans among_succ.symm), hbl.drew.trans hbl'⟩
              case measure => simp [intOf]; omega
        · have hkl : k = len0 := by omega
          subst hkl
          go_wp2
          go_loopw [6] (fun i wx => ∃ j : Nat, j ≤ k ∧ i = .int .i64 j ∧ ∃ g n, OSet wx w2.heap.size g n ∧ n ≤ k + j ∧ (∀ y, Among g n y ↔ Among f0 k y) ∧ Below w2.heap.size w2 wx) (fun i _ => k - (intOf i).toNat)
          case atStart => exact ⟨0, Nat.zero_le _, rfl, g, m, hset, by omega, HAM.out, hbl⟩
          case round =>
            obtain ⟨j, hj, rfl, g', m', hset', hmk', ham', hbl'⟩ := hrel
            have HAM' : Hid (∀ y, Among g' m' y ↔ Among f0 k y) := ham'
            clear ham' hset hbl HAM
            by_cases hlt' : j < k
            · have hsz := SZ.out j hlt'
              have hyes : Among g' m' (f0 j) := (HAM'.out _).2 ⟨j, hlt', rfl⟩
              rcases s2 with s2 | ⟨b, off, rfl, hb0, hc, hs⟩
              · omega
              · have hck : wr.cell? ⟨b, off + j, none⟩ = some (.string (f0 j)) := (hbl'.cell (p := ⟨b, off + j, none⟩) hb0).trans (hc j hlt')
                clear hc hs
                go_wp2_with fail
                refine (zzAdd_any w2.heap.size m' g' (f0 j) _ hset' (by omega) hsz).mono ?_
                rintro e w3 ⟨r, rfl, hr, g3, m3, hset3, hm3, ham3, hbl3⟩
                have er : r = false := by
                  cases r
                  · rfl
                  · exact absurd hyes (hr.1 rfl)
                subst er
                have HAM3 : Hid (∀ y, Among g3 m3 y ↔ Among g' m' y ∨ y = f0 j) := ham3
                clear hr ham3
                go_wp2
                go_roundw
                case rel =>
                  refine ⟨j + 1, by omega, by go_num, g3, m3, hset3, by omega, fun y => (HAM3.out y).trans ⟨fun h => ?_, fun h => .inl ((HAM'.out y).2 h)⟩, hbl'.trans hbl3⟩
                  rcases h with h | h
                  · exact (HAM'.out y).1 h
                  · rw [h]; exact ⟨j, hlt', rfl⟩
                case measure => simp [intOf]; omega
            · go_wp2
              go_ret
              exact ⟨rfl, b12.trans (hbl'.mono b12.size)⟩

set_option maxRecDepth 100000 in
theorem lifted (os : Os) (started : os.Started) (H : Type) (enc : TypeId × Value → H) :
    ReturnsInHanded {} Try.checked os 6 .any (Rows.fnObjectSetAddAnswersFirstOccurrenceSpec.pre6 enc Try.prog Try.f6 Rows.fnObjectSetAddAnswersFirstOccurrenceRow.domain false) (Rows.fnObjectSetAddAnswersFirstOccurrenceSpec.post enc Try.prog Try.f6 false true false false) := by
  refine returnsInHanded_of_change (C := Try.checked) own started (by kernel_rfl) Try.func6
    (ChangeSpec.witness6 (enc := enc) (C := Try.checked) false ⟨#[], #[.slice none 0 0], []⟩ 8 (by kernel_rfl) (by kernel_rfl) (by kernel_rfl) (by kernel_rfl)) ?_
  intro W base args ds gs before hval0 hW hcnd _
  have hval : ∀ (j : Nat) t v, Try.f6.params[j]? = some t → args[j]? = some v → Value.okWide Try.prog W .any base t v := hval0
  have hW' := hW
  obtain ⟨p, q, hA0, hV, rfl, hfz, hnd⟩ := hW
  have hA : DataW.TrodAll enc Try.prog W 0 (fun _ => true) true Try.f6.params.toList args.toList ds p := hA0
  rw [Try.params6] at hA hval
  obtain ⟨v0, vs0, d0, ds0, p0, q0, hargs, rfl, rfl, h0, r0⟩ := trodAll_cons hA
  obtain ⟨rfl, rfl, rfl⟩ := trodAll_nil r0
  obtain rfl : args = #[v0] := by cases args; simp_all
  obtain ⟨rfl, rfl⟩ := trodVars_none hV
  obtain ⟨a0, len0, cap0, rfl⟩ := okWide_slice Try.underlying22 (hval 0 22 v0 rfl rfl)
  have k0 := h0
  have lt0 : ∀ x ∈ p0, x.block < W.heap.size := by obtain ⟨m, hm⟩ := k0; exact DataW.trod_lt m _ _ _ hm
  obtain ⟨f0, s0, m0, n0⟩ := open_list h0 lt0
  clear hA0 hval0
  refine (walk a0 len0 cap0 f0 W s0 m0 n0).mono fun e W' ⟨he, bel⟩ => ?_
  subst he
  exact ⟨_, rfl, _, _, _, [], _, [], hW', trodAll_mk1 (shut_bool Try.underlying4 _), (trodAll_cons_mk (Below.trod laidOut (by kernel_rfl) (of_decide_eq_true (by kernel_rfl)) k0 bel lt0) trodAll_mk0), rfl, bel.frame _, fun h => by cases h⟩

theorem closed : joinedFacts Try.prog 6 Try.f6 Rows.fnObjectSetAddAnswersFirstOccurrenceSpec Rows.fnObjectSetAddAnswersFirstOccurrenceRow = true := by
  unfold joinedFacts
  rw [make_is, lifts_is, enter_is]
  kernel_rfl

theorem over : Rows.fnObjectSetAddAnswersFirstOccurrenceRow.holds Try.pinned (OpenSpec.ofChange Rows.fnObjectSetAddAnswersFirstOccurrenceSpec) :=
  OpenClaim.holds_of_wide 6 Try.f6 rfl rfl rfl rfl rfl rfl rfl ⟨rfl, rfl, rfl, rfl, rfl⟩ rfl rfl rfl rfl rfl (funcNamed_of_nodup names_are names_apart rfl) Try.func6 closed
    (of_decide_eq_true (by kernel_rfl)) (by unfold Func.isWrapper; first | (rw [if_pos (by decide +kernel)]; kernel_rfl) | (rw [if_neg (by decide +kernel)]; exact ⟨rfl, rfl⟩))
    (fun os started H enc _ => lifted os started H enc)

theorem proved : Rows.FnObjectSetAddAnswersFirstOccurrenceSaid := over
#print axioms proved

end Go.Proofs.Qxb6603406a.fnObjectSetAddAnswersFirstOccurrence
