/-
  Seat b6603406a: 'Rows.FnHoldsOneOfMeetsSpecSaid' proved: holdsOneOf answers just as the sort-and-merge model does.
-/
import Derived.Test.Qxb6603406aMeets
import Derived.Test.Qxb6603406aBytes2
import Derived.Test.Qxb6603406aOpen
namespace Go.Proofs.Qxb6603406a.fnHoldsOneOfMeetsSpec
open Go.ChangeShapes Go.WideShapes Go.ChangeAt Go.RowKit
open Go.ChangeMaps (open_string shut_string)
set_option linter.unusedVariables false

/-- It returns true; nothing that was there has turned. -/
def Truly (w : World) (e : Ending) (w' : World) : Prop := e = .returned (.bool true) ∧ Below w.heap.size w w'

set_option maxHeartbeats 1000000 in
theorem walk (a0 : Option Addr) (len0 cap0 : Nat) (f0 : Nat → ByteArray) (a1 : Option Addr) (len1 cap1 : Nat) (f1 : Nat → ByteArray) (w : World)
    (s0 : Strs w a0 len0 f0) (m0 : len0 ≤ maxLen) (n0 : a0 = none → len0 = 0 ∧ cap0 = 0) (s1 : Strs w a1 len1 f1) (m1 : len1 ≤ maxLen) (n1 : a1 = none → len1 = 0 ∧ cap1 = 0) :
    Calls Try.prog 3 #[.slice a0 len0 cap0, .slice a1 len1 cap1] w (Truly w) := by
  have hZ := zzMeets_any a0 len0 cap0 f0 a1 len1 cap1 f1 w m0 s0 m1 s1
  go_enter Try.func3, Try.ntmps3
  go_wp2_with fail
  refine hZ.mono ?_
  rintro e w' ⟨r, rfl, hw⟩
  subst hw
  clear hZ
  cases r with
  | false =>
    go_wp2
    go_ret
    exact ⟨rfl, Below.refl _ _⟩
  | true =>
    go_wp2_with fail
    refine (addBytes_any 0 a0 len0 cap0 f0 _ (by omega) m0 s0).mono ?_
    rintro e w' ⟨n, rfl, ⟨hn1, hn2, hn3⟩, hw⟩
    subst hw
    go_wp2_with fail
    refine (addBytes_any n a1 len1 cap1 f1 _ (by omega) m1 s1).mono ?_
    rintro e w' ⟨n', rfl, ⟨hn1', hn2', hn3'⟩, hw⟩
    subst hw
    by_cases hneg : n' < 0
    · go_wp2
      go_ret
      exact ⟨rfl, Below.refl _ _⟩
    · obtain ⟨hp, hl1⟩ := hn3' (by omega)
      obtain ⟨_, hl0⟩ := hn3 hp
      clear hn3 hn3'
      go_wp2_with fail
      refine (clone_any a0 len0 cap0 f0 _ (by omega) s0 n0).mono ?_
      rintro e w1 ⟨b0, c0, rfl, t0, l1⟩
      have s1' := s1.below l1
      go_wp2_with fail
      refine (clone_any a1 len1 cap1 f1 _ (by omega) s1' n1).mono ?_
      rintro e w2 ⟨b1, c1, rfl, t1, l2⟩
      have t0' := t0.below l2
      go_wp2_with fail
      refine (zzHolds_any b0 len0 c0 f0 b1 len1 c1 f1 _ (by omega) (by omega) t0' t1).mono ?_
      rintro e w3 ⟨r, rfl, hr, l3⟩
      have t0'' := t0'.below l3
      have t1' := t1.below l3
      have HR : Hid (r = true ↔ Meet f0 len0 f1 len1) := hr
      clear hr
      go_wp2_with fail
      refine (meets_any b0 len0 c0 f0 b1 len1 c1 f1 _ (by omega) (by omega) t0'' t1').mono ?_
      rintro e w4 ⟨r', rfl, hr', l4⟩
      have e : r = r' := by rw [Bool.eq_iff_iff, HR.out, hr']
      subst e
      clear hr' HR
      go_wp2
      go_ret
      have l12 := l1.trans (l2.mono l1.size)
      have l123 := l12.trans (l3.mono l12.size)
      exact ⟨by simp, l123.trans (l4.mono l123.size)⟩

set_option maxRecDepth 100000 in
theorem lifted (os : Os) (started : os.Started) (H : Type) (enc : TypeId × Value → H) :
    ReturnsInHanded {} Try.checked os 3 .any (Rows.fnHoldsOneOfMeetsSpecSpec.pre6 enc Try.prog Try.f3 Rows.fnHoldsOneOfMeetsSpecRow.domain false) (Rows.fnHoldsOneOfMeetsSpecSpec.post enc Try.prog Try.f3 false true false false) := by
  refine returnsInHanded_of_change (C := Try.checked) own started (by kernel_rfl) Try.func3
    (ChangeSpec.witness6 (enc := enc) (C := Try.checked) false ⟨#[], #[.slice none 0 0, .slice none 0 0], []⟩ 8 (by kernel_rfl) (by kernel_rfl) (by kernel_rfl) (by kernel_rfl)) ?_
  intro W base args ds gs before hval0 hW hcnd _
  have hval : ∀ (j : Nat) t v, Try.f3.params[j]? = some t → args[j]? = some v → Value.okWide Try.prog W .any base t v := hval0
  have hW' := hW
  obtain ⟨p, q, hA0, hV, rfl, hfz, hnd⟩ := hW
  have hA : DataW.TrodAll enc Try.prog W 0 (fun _ => true) true Try.f3.params.toList args.toList ds p := hA0
  rw [Try.params3] at hA hval
  obtain ⟨v0, vs0, d0, ds0, p0, q0, hargs, rfl, rfl, h0, r0⟩ := trodAll_cons hA
  obtain ⟨v1, vs1, d1, ds1, p1, q1, rfl, rfl, rfl, h1, r1⟩ := trodAll_cons r0
  obtain ⟨rfl, rfl, rfl⟩ := trodAll_nil r1
  obtain rfl : args = #[v0, v1] := by cases args; simp_all
  obtain ⟨rfl, rfl⟩ := trodVars_none hV
  obtain ⟨a0, len0, cap0, rfl⟩ := okWide_slice Try.underlying22 (hval 0 22 v0 rfl rfl)
  have k0 := h0
  have lt0 : ∀ x ∈ p0, x.block < W.heap.size := by obtain ⟨m, hm⟩ := k0; exact DataW.trod_lt m _ _ _ hm
  obtain ⟨f0, s0, m0, n0⟩ := open_list h0 lt0
  obtain ⟨a1, len1, cap1, rfl⟩ := okWide_slice Try.underlying22 (hval 1 22 v1 rfl rfl)
  have k1 := h1
  have lt1 : ∀ x ∈ p1, x.block < W.heap.size := by obtain ⟨m, hm⟩ := k1; exact DataW.trod_lt m _ _ _ hm
  obtain ⟨f1, s1, m1, n1⟩ := open_list h1 lt1
  clear hA0 hval0
  refine (walk a0 len0 cap0 f0 a1 len1 cap1 f1 W s0 m0 n0 s1 m1 n1).mono fun e W' ⟨he, bel⟩ => ?_
  subst he
  exact ⟨_, rfl, _, _, _, [], _, [], hW', trodAll_mk1 (shut_bool Try.underlying4 _), (trodAll_cons_mk (Below.trod laidOut (by kernel_rfl) (of_decide_eq_true (by kernel_rfl)) k0 bel lt0) (trodAll_cons_mk (Below.trod laidOut (by kernel_rfl) (of_decide_eq_true (by kernel_rfl)) k1 bel lt1) trodAll_mk0)), rfl, bel.frame _, fun h => by cases h⟩

theorem closed : joinedFacts Try.prog 3 Try.f3 Rows.fnHoldsOneOfMeetsSpecSpec Rows.fnHoldsOneOfMeetsSpecRow = true := by
  unfold joinedFacts
  rw [make_is, lifts_is, enter_is]
  kernel_rfl

theorem over : Rows.fnHoldsOneOfMeetsSpecRow.holds Try.pinned (OpenSpec.ofChange Rows.fnHoldsOneOfMeetsSpecSpec) :=
  OpenClaim.holds_of_wide 3 Try.f3 rfl rfl rfl rfl rfl rfl rfl ⟨rfl, rfl, rfl, rfl, rfl⟩ rfl rfl rfl rfl rfl (funcNamed_of_nodup names_are names_apart rfl) Try.func3 closed
    (of_decide_eq_true (by kernel_rfl)) (by unfold Func.isWrapper; first | (rw [if_pos (by decide +kernel)]; kernel_rfl) | (rw [if_neg (by decide +kernel)]; exact ⟨rfl, rfl⟩))
    (fun os started H enc _ => lifted os started H enc)

theorem proved : Rows.FnHoldsOneOfMeetsSpecSaid := over
#print axioms proved

end Go.Proofs.Qxb6603406a.fnHoldsOneOfMeetsSpec
