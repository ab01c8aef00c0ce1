/-
  Seat b6603406a: 'Rows.FnObjectSetHoldsExactlyWhatWasAddedSaid' proved.
-/
import Derived.Test.Qxb6603406aSet
import Derived.Test.Qxb6603406aFind
import Derived.Test.Qxb6603406aBytes3
import Derived.Test.Qxb6603406aOpen
import Derived.Deep.RegionWith
namespace Go.Proofs.Qxb6603406a.fnObjectSetHoldsExactlyWhatWasAdded
open Go.ChangeShapes Go.WideShapes Go.ChangeAt Go.RowKit
open Go.ChangeMaps (open_string shut_string)
set_option linter.unusedVariables false

/-- It returns true; nothing that was there has turned. -/
def Truly (w : World) (e : Ending) (w' : World) : Prop := e = .returned (.bool true) ∧ Below w.heap.size w w'

theorem among_succ {f : Nat → ByteArray} {k : Nat} {y : ByteArray} : Among f (k + 1) y ↔ Among f k y ∨ y = f k := by
  constructor
  · rintro ⟨j, hj, e⟩
    by_cases h : j = k
    · rw [h] at e; exact .inr e.symm
    · exact .inl ⟨j, by omega, e⟩
  · rintro (⟨j, hj, e⟩ | e)
    · exact ⟨j, by omega, e⟩
    · exact ⟨k, by omega, e.symm⟩

set_option maxHeartbeats 2000000 in
set_option maxRecDepth 100000 in
theorem walk (a0 : Option Addr) (len0 cap0 : Nat) (f0 : Nat → ByteArray) (a1 : Option Addr) (len1 cap1 : Nat) (f1 : Nat → ByteArray) (w : World)
    (s0 : Strs w a0 len0 f0) (m0 : len0 ≤ maxLen) (n0 : a0 = none → len0 = 0 ∧ cap0 = 0) (s1 : Strs w a1 len1 f1) (m1 : len1 ≤ maxLen) (n1 : a1 = none → len1 = 0 ∧ cap1 = 0) :
    Calls Try.prog 7 #[.slice a0 len0 cap0, .slice a1 len1 cap1] w (Truly w) := by
  have hZ := zzHoldsBytes_any a0 len0 cap0 f0 a1 len1 cap1 f1 w m0 s0 m1 s1
  go_enter Try.func7, Try.ntmps7
  go_wp2_with fail
  refine hZ.mono ?_
  rintro e w' ⟨r, rfl, hw⟩
  subst hw
  clear hZ
  cases r with
  | false =>
    go_wp2
    go_ret
    exact ⟨rfl, Below.refl _ _⟩
  | true =>
    go_wp2_with fail
    refine (addBytes_any 0 a0 len0 cap0 f0 _ (by omega) m0 s0).mono ?_
    rintro e w' ⟨n, rfl, ⟨hn1, hn2, hn3⟩, hw⟩
    subst hw
    go_wp2_with fail
    refine (addBytes_any n a1 len1 cap1 f1 _ (by omega) m1 s1).mono ?_
    rintro e w' ⟨n', rfl, ⟨hn1', hn2', hn3'⟩, hw⟩
    subst hw
    by_cases hneg : n' < 0
    · go_wp2
      go_ret
      exact ⟨rfl, Below.refl _ _⟩
    · obtain ⟨hp, hl1⟩ := hn3' (by omega)
      obtain ⟨_, hl0⟩ := hn3 hp
      clear hn3 hn3'
      go_wp2_with fail
      refine (clone_any a0 len0 cap0 f0 _ (by omega) s0 n0).mono ?_
      rintro e w1 ⟨b0, c0, rfl, t0, l1⟩
      have s1' := s1.below l1
      go_wp2_with fail
      refine (clone_any a1 len1 cap1 f1 _ (by omega) s1' n1).mono ?_
      rintro e w2 ⟨b1, c1, rfl, t1, l2⟩
      have t0' := t0.below l2
      have l12 := l1.trans (l2.mono l1.size)
      have SZ0 : Hid (∀ j, j < len0 → (f0 j).size ≤ maxLen) := t0'.sizes
      have SZ1 : Hid (∀ j, j < len1 → (f1 j).size ≤ maxLen) := t1.sizes
      clear s0 s1 s1' t0 l1 l2 n0 n1
      go_wp2
      go_loopw [6] (fun i wr => ∃ k : Nat, k ≤ len0 ∧ i = .int .i64 k ∧ ∃ g n, OSet wr w2.heap.size g n ∧ n ≤ k ∧ (∀ y, Among g n y ↔ Among f0 k y) ∧ Below w2.heap.size w2 wr) (fun i _ => len0 - (intOf i).toNat)
      case atStart => exact ⟨0, Nat.zero_le _, rfl, fun _ => ByteArray.empty, 0, OSet.made _ _, Nat.le_refl _, fun y => ⟨fun ⟨j, hj, _⟩ => by omega, fun ⟨j, hj, _⟩ => by omega⟩, (Below.refl _ _).alloc (Nat.le_refl _) _⟩
      case round =>
        obtain ⟨k, hk, rfl, g, m, hset, hmk, ham, hbl⟩ := hrel
        have HAM : Hid (∀ y, Among g m y ↔ Among f0 k y) := ham
        clear ham
        by_cases hlt : k < len0
        · have hsz := SZ0.out k hlt
          rcases t0' with t0' | ⟨b, off, rfl, hb0, hc, hs⟩
          · omega
          · have hck : wr.cell? ⟨b, off + k, none⟩ = some (.string (f0 k)) := (hbl.cell (p := ⟨b, off + k, none⟩) hb0).trans (hc k hlt)
            clear hc hs
            go_wp2_with fail
            refine (zzAdd_any w2.heap.size m g (f0 k) _ hset (by omega) hsz).mono ?_
            rintro e w3 ⟨r, rfl, hr, g3, m3, hset3, hm3, ham3, hbl3⟩
            have HAM3 : Hid (∀ y, Among g3 m3 y ↔ Among g m y ∨ y = f0 k) := ham3
            clear hr ham3
            go_wp2
            go_roundw
            case rel => exact ⟨k + 1, by omega, by go_num, g3, m3, hset3, by omega, fun y => (HAM3.out y).trans ((or_congr (HAM.out y) Iff.rfl).trans among_succ.symm), hbl.trans hbl3⟩
            case measure => simp [intOf]; omega
        · have hkl : k = len0 := by omega
          subst hkl
          have tr := t0'.below hbl
          go_wp2_with fail
          refine (sortedCopy_any b0 k c0 f0 _ (by omega) tr).mono ?_
          rintro e w3 ⟨bs, fs, rfl, rS, srt, l3⟩
          have hset3 := hset.below l3
          have u0 := tr.below l3
          have u1 := (t1.below hbl).below l3
          have hl3 : Below w2.heap.size w2 w3 := hbl.trans (l3.mono hbl.size)
          have RS : Hid (Rises fs k) := srt.rises
          have AS : Hid (∀ y, Among fs k y ↔ Among f0 k y) := srt.among
          clear hset tr l3 srt t0' t1 hbl
          go_wp2
          go_loopw [8] (fun i wx => ∃ j : Nat, j ≤ k ∧ i = .int .i64 j ∧ OSet wx w2.heap.size g m ∧ Below w3.heap.size w3 wx) (fun i _ => k - (intOf i).toNat)
          case atStart => exact ⟨0, Nat.zero_le _, rfl, hset3, Below.refl _ _⟩
          case round =>
            obtain ⟨j, hj, rfl, hsetx, hbx⟩ := hrel
            clear hset3
            by_cases hlt' : j < k
            · have hsz := SZ0.out j hlt'
              have hyes : Among g m (f0 j) := (HAM.out _).2 ⟨j, hlt', rfl⟩
              rcases u0 with u0 | ⟨b, off, rfl, hb0, hc, hs⟩
              · omega
              · have hck : wr.cell? ⟨b, off + j, none⟩ = some (.string (f0 j)) := (hbx.cell (p := ⟨b, off + j, none⟩) hb0).trans (hc j hlt')
                clear hc hs
                go_wp2_with fail
                refine (zzHoldsSet_any w2.heap.size m g (f0 j) _ hsetx hsz).mono ?_
                rintro e w4 ⟨r, rfl, hr, hset4, hbl4⟩
                have er : r = true := hr.2 hyes
                subst er
                clear hr
                go_wp2
                go_roundw
                case rel => exact ⟨j + 1, by omega, by go_num, hset4, hbx.trans (hbl4.mono hbx.size)⟩
                case measure => simp [intOf]; omega
            · go_wp2
              go_loopw [9] (fun i wy => ∃ j : Nat, j ≤ len1 ∧ i = .int .i64 j ∧ OSet wy w2.heap.size g m ∧ Below w3.heap.size w3 wy) (fun i _ => len1 - (intOf i).toNat)
              case atStart => exact ⟨0, Nat.zero_le _, rfl, hsetx, hbx⟩
              case round =>
                obtain ⟨p, hp', rfl, hsety, hby⟩ := hrel
                clear hsetx hbx u0
                by_cases hltp : p < len1
                · have hsz := SZ1.out p hltp
                  have rSy : SRow wr bs k fs := Row.below rS hby (Row.lt rS)
                  rcases u1 with u1 | ⟨b, off, rfl, hb0, hc, hs⟩
                  · omega
                  · have hck : wr.cell? ⟨b, off + p, none⟩ = some (.string (f1 p)) := (hby.cell (p := ⟨b, off + p, none⟩) hb0).trans (hc p hltp)
                    have hby' := hby.size
                    clear hc hs
                    go_wp2
                    go_region_with (first | (go_at_call 23; refine (zzHoldsSet_any w2.heap.size m g (f1 p) _ ?_ hsz).mono ?_; exact hsety.below ⟨rfl, rfl, rfl, Nat.le_refl _, fun _ _ => rfl⟩; rintro e w4 ⟨r, rfl, hr, hset4, hbl4⟩; have HR : Hid (r = true ↔ Among g m (f1 p)) := hr; clear hr; have hck4 : w4.cell? ⟨b, off + p, none⟩ = some (.string (f1 p)) := (hbl4.cell (p := ⟨b, off + p, none⟩) (by exact Nat.lt_of_lt_of_le hb0 hby')).trans hck; have rS4 : SRow w4 bs k fs := Row.below (w := wr.drew) (Row.block rSy rfl) hbl4 (Row.lt rSy)) | (go_at_call 24; refine (contains_sorted bs k fs (f1 p) _ (by omega) (by exact rS4) RS.out).mono ?_; rintro e w5 ⟨r', rfl, hr', hw5⟩; subst hw5; have er : r = r' := (by rw [Bool.eq_iff_iff, HR.out, hr', HAM.out, AS.out]); subst er; clear hr' HR))
                    all_goals
                      go_wp2
                      go_roundw
                      case rel => exact ⟨p + 1, by omega, by go_num, hset4, hby.drew.trans (hbl4.mono hby')⟩
                      case measure => simp [intOf]; omega
                · go_wp2
                  go_ret
                  exact ⟨rfl, (l12.trans (hl3.mono l12.size)).trans (hby.mono (Nat.le_trans l12.size hl3.size))⟩

set_option maxRecDepth 100000 in
theorem lifted (os : Os) (started : os.Started) (H : Type) (enc : TypeId × Value → H) :
    ReturnsInHanded {} Try.checked os 7 .any (Rows.fnObjectSetHoldsExactlyWhatWasAddedSpec.pre6 enc Try.prog Try.f7 Rows.fnObjectSetHoldsExactlyWhatWasAddedRow.domain false) (Rows.fnObjectSetHoldsExactlyWhatWasAddedSpec.post enc Try.prog Try.f7 false true false false) := by
  refine returnsInHanded_of_change (C := Try.checked) own started (by kernel_rfl) Try.func7
    (ChangeSpec.witness6 (enc := enc) (C := Try.checked) false ⟨#[], #[.slice none 0 0, .slice none 0 0], []⟩ 8 (by kernel_rfl) (by kernel_rfl) (by kernel_rfl) (by kernel_rfl)) ?_
  intro W base args ds gs before hval0 hW hcnd _
  have hval : ∀ (j : Nat) t v, Try.f7.params[j]? = some t → args[j]? = some v → Value.okWide Try.prog W .any base t v := hval0
  have hW' := hW
  obtain ⟨p, q, hA0, hV, rfl, hfz, hnd⟩ := hW
  have hA : DataW.TrodAll enc Try.prog W 0 (fun _ => true) true Try.f7.params.toList args.toList ds p := hA0
  rw [Try.params7] at hA hval
  obtain ⟨v0, vs0, d0, ds0, p0, q0, hargs, rfl, rfl, h0, r0⟩ := trodAll_cons hA
  obtain ⟨v1, vs1, d1, ds1, p1, q1, rfl, rfl, rfl, h1, r1⟩ := trodAll_cons r0
  obtain ⟨rfl, rfl, rfl⟩ := trodAll_nil r1
  obtain rfl : args = #[v0, v1] := by cases args; simp_all
  obtain ⟨rfl, rfl⟩ := trodVars_none hV
  obtain ⟨a0, len0, cap0, rfl⟩ := okWide_slice Try.underlying22 (hval 0 22 v0 rfl rfl)
  have k0 := h0
  have lt0 : ∀ x ∈ p0, x.block < W.heap.size := by obtain ⟨m, hm⟩ := k0; exact DataW.trod_lt m _ _ _ hm
  obtain ⟨f0, s0, m0, n0⟩ := open_list h0 lt0
  obtain ⟨a1, len1, cap1, rfl⟩ := okWide_slice Try.underlying22 (hval 1 22 v1 rfl rfl)
  have k1 := h1
  have lt1 : ∀ x ∈ p1, x.block < W.heap.size := by obtain ⟨m, hm⟩ := k1; exact DataW.trod_lt m _ _ _ hm
  obtain ⟨f1, s1, m1, n1⟩ := open_list h1 lt1
  clear hA0 hval0
  refine (walk a0 len0 cap0 f0 a1 len1 cap1 f1 W s0 m0 n0 s1 m1 n1).mono fun e W' ⟨he, bel⟩ => ?_
  subst he
  exact ⟨_, rfl, _, _, _, [], _, [], hW', trodAll_mk1 (shut_bool Try.underlying4 _), (trodAll_cons_mk (Below.trod laidOut (by kernel_rfl) (of_decide_eq_true (by kernel_rfl)) k0 bel lt0) (trodAll_cons_mk (Below.trod laidOut (by kernel_rfl) (of_decide_eq_true (by kernel_rfl)) k1 bel lt1) trodAll_mk0)), rfl, bel.frame _, fun h => by cases h⟩

theorem closed : joinedFacts Try.prog 7 Try.f7 Rows.fnObjectSetHoldsExactlyWhatWasAddedSpec Rows.fnObjectSetHoldsExactlyWhatWasAddedRow = true := by
  unfold joinedFacts
  rw [make_is, lifts_is, enter_is]
  kernel_rfl

theorem over : Rows.fnObjectSetHoldsExactlyWhatWasAddedRow.holds Try.pinned (OpenSpec.ofChange Rows.fnObjectSetHoldsExactlyWhatWasAddedSpec) :=
  OpenClaim.holds_of_wide 7 Try.f7 rfl rfl rfl rfl rfl rfl rfl ⟨rfl, rfl, rfl, rfl, rfl⟩ rfl rfl rfl rfl rfl (funcNamed_of_nodup names_are names_apart rfl) Try.func7 closed
    (of_decide_eq_true (by kernel_rfl)) (by unfold Func.isWrapper; first | (rw [if_pos (by decide +kernel)]; kernel_rfl) | (rw [if_neg (by decide +kernel)]; exact ⟨rfl, rfl⟩))
    (fun os started H enc _ => lifted os started H enc)

theorem proved : Rows.FnObjectSetHoldsExactlyWhatWasAddedSaid := over
#print axioms proved

end Go.Proofs.Qxb6603406a.fnObjectSetHoldsExactlyWhatWasAdded
