/-
  Seat b6603406a: 'Rows.FnConflictsMatchesReadWriteRuleSaid' proved.
-/
import Derived.Test.Qxb6603406aMeets
import Derived.Test.Qxb6603406aConf
import Derived.Test.Qxb6603406aBytes4
import Derived.Test.Qxb6603406aBytes5
import Derived.Test.Qxb6603406aOpen
namespace Go.Proofs.Qxb6603406a.fnConflictsMatchesReadWriteRule
open Go.ChangeShapes Go.WideShapes Go.ChangeAt Go.RowKit
open Go.ChangeMaps (open_string shut_string)
set_option linter.unusedVariables false

/-- It returns true; nothing that was there has turned. -/
def Truly (w : World) (e : Ending) (w' : World) : Prop := e = .returned (.bool true) ∧ Below w.heap.size w w'

set_option maxHeartbeats 2000000 in
set_option maxRecDepth 100000 in
theorem walk (t0 : ByteArray) (a1 : Option Addr) (len1 cap1 : Nat) (f1 : Nat → ByteArray) (a2 : Option Addr) (len2 cap2 : Nat) (f2 : Nat → ByteArray) (t3 : ByteArray) (a4 : Option Addr) (len4 cap4 : Nat) (f4 : Nat → ByteArray) (a5 : Option Addr) (len5 cap5 : Nat) (f5 : Nat → ByteArray) (w : World)
    (z0 : t0.size ≤ maxLen) (s1 : Strs w a1 len1 f1) (m1 : len1 ≤ maxLen) (n1 : a1 = none → len1 = 0 ∧ cap1 = 0) (s2 : Strs w a2 len2 f2) (m2 : len2 ≤ maxLen) (n2 : a2 = none → len2 = 0 ∧ cap2 = 0)
    (z3 : t3.size ≤ maxLen) (s4 : Strs w a4 len4 f4) (m4 : len4 ≤ maxLen) (n4 : a4 = none → len4 = 0 ∧ cap4 = 0) (s5 : Strs w a5 len5 f5) (m5 : len5 ≤ maxLen) (n5 : a5 = none → len5 = 0 ∧ cap5 = 0) :
    Calls Try.prog 8 #[.string t0, .slice a1 len1 cap1, .slice a2 len2 cap2, .string t3, .slice a4 len4 cap4, .slice a5 len5 cap5] w (Truly w) := by
  have hZ := zzConf_any t0 a1 len1 cap1 f1 a2 len2 cap2 f2 t3 a4 len4 cap4 f4 a5 len5 cap5 f5 w z0 z3 m1 m2 m4 m5 s1 s2 s4 s5
  go_enter Try.func8, Try.ntmps8
  go_wp2_with fail
  refine hZ.mono ?_
  rintro e w' ⟨r, rfl, hw⟩
  subst hw
  clear hZ
  cases r with
  | false =>
    go_wp2
    go_ret
    exact ⟨rfl, Below.refl _ _⟩
  | true =>
    go_wp2_with fail
    refine (elementBytes_any t0 a1 len1 cap1 f1 a2 len2 cap2 f2 t3 a4 len4 cap4 f4 a5 len5 cap5 f5 _ z0 z3 m1 m2 m4 m5 s1 s2 s4 s5).mono ?_
    rintro e w' ⟨n, rfl, hn, hw⟩
    subst hw
    by_cases hneg : n < 0
    · clear hn
      go_wp2
      go_ret
      exact ⟨rfl, Below.refl _ _⟩
    · obtain ⟨p1, p2, p4, p5⟩ := hn (by omega)
      clear hn
      go_wp2_with fail
      refine (clone_any a1 len1 cap1 f1 _ (by omega) s1 n1).mono ?_
      rintro e w1 ⟨b1, c1, rfl, u1, l1⟩
      go_wp2_with fail
      refine (clone_any a2 len2 cap2 f2 _ (by omega) (s2.below l1) n2).mono ?_
      rintro e w2 ⟨b2, c2, rfl, u2, l2⟩
      have l12 := below_via l1 l2
      go_wp2_with fail
      refine (clone_any a4 len4 cap4 f4 _ (by omega) (s4.below l12) n4).mono ?_
      rintro e w3 ⟨b4, c4, rfl, u4, l3⟩
      have l13 := below_via l12 l3
      go_wp2_with fail
      refine (clone_any a5 len5 cap5 f5 _ (by omega) (s5.below l13) n5).mono ?_
      rintro e w4 ⟨b5, c5, rfl, u5, l4⟩
      have l14 := below_via l13 l4
      have v1 : Strs w4 b1 len1 f1 := ((u1.below l2).below l3).below l4
      have v2 : Strs w4 b2 len2 f2 := (u2.below l3).below l4
      have v4 : Strs w4 b4 len4 f4 := u4.below l4
      clear s1 s2 s4 s5 n1 n2 n4 n5 u1 u2 u4 l1 l2 l3 l4 l12 l13
      obtain ⟨W, hW⟩ : ∃ W, W = (w4.alloc (.cells #[.string t0, .slice b1 len1 c1, .slice b2 len2 c2] 38)).alloc (.cells #[.string t3, .slice b4 len4 c4, .slice b5 len5 c5] 38) := ⟨_, rfl⟩
      have hbW : Below w4.heap.size w4 W := by
        rw [hW]
        exact ((Below.refl _ _).alloc (Nat.le_refl _) _).alloc (by simp) _
      have hE : Elem W w4.heap.size t0 b1 len1 c1 b2 len2 c2 := by
        rw [hW]
        exact ⟨by simp, by simp, by simp, by simp; omega⟩
      have hF : Elem W (w4.heap.size + 1) t3 b4 len4 c4 b5 len5 c5 := by
        rw [hW]
        exact ⟨by simp, by simp, by simp, by simp⟩
      have HW : Hid (W = (w4.alloc (.cells #[.string t0, .slice b1 len1 c1, .slice b2 len2 c2] 38)).alloc (.cells #[.string t3, .slice b4 len4 c4, .slice b5 len5 c5] 38)) := hW
      have l1W := below_via l14 hbW
      have x1 := v1.below hbW
      have x2 := v2.below hbW
      have x4 := v4.below hbW
      have x5 := u5.below hbW
      clear hW v1 v2 v4 u5 l14 hbW
      cases he : (t0.toList == t3.toList) with
      | true =>
        go_wp2_with fail
        rw [← HW.out]
        refine (conflicts_any t0 b1 len1 c1 f1 b2 len2 c2 f2 t3 b4 len4 c4 f4 b5 len5 c5 f5 W x1 x2 x4 x5 (by omega)).mono ?_
        rintro e w5 ⟨r, rfl, hr, l5⟩
        have er : r = false := by
          cases r
          · rfl
          · exact absurd (eq_of_lists he).symm (hr.1 rfl).1
        subst er
        clear hr
        go_wp2
        go_ret
        exact ⟨rfl, below_via l1W l5⟩
      | false =>
        have hne : t0 ≠ t3 := fun e => (ne_of_lists he) e.symm
        go_wp2_with fail
        rw [← HW.out]
        refine (meets_any b2 len2 c2 f2 b4 len4 c4 f4 W (by omega) (by omega) x2 x4).mono ?_
        rintro e w5 ⟨r, rfl, hr, l5⟩
        have y1 := x1.below l5
        have y2 := x2.below l5
        have y4 := x4.below l5
        have y5 := x5.below l5
        have hE5 := hE.below l5
        have hF5 := hF.below l5
        have l15 := below_via l1W l5
        clear x1 x2 x4 x5 hE hF l1W l5 HW
        cases r with
        | true =>
          have hY := hr.1 rfl
          clear hr
          have e0 := hE5.c0
          have e1 := hE5.c1
          have e2 := hE5.c2
          have d0 := hF5.c0
          have d1 := hF5.c1
          have d2 := hF5.c2
          go_wp2_with fail
          refine (conflicts_any t0 b1 len1 c1 f1 b2 len2 c2 f2 t3 b4 len4 c4 f4 b5 len5 c5 f5 _ y1 y2 y4 y5 (by omega)).mono ?_
          rintro e w6 ⟨r, rfl, hr, l6⟩
          have er : r = true := hr.2 ⟨hne, .inr (.inl hY)⟩
          subst er
          clear hr
          go_wp2
          go_ret
          exact ⟨rfl, below_via l15 l6⟩
        | false =>
          have hN1 : ¬ Meet f2 len2 f4 len4 := fun h => by have := hr.2 h; cases this
          clear hr
          go_wp2_with fail
          refine (meets_any b2 len2 c2 f2 b5 len5 c5 f5 _ (by omega) (by omega) y2 y5).mono ?_
          rintro e w6 ⟨r, rfl, hr, l6⟩
          have x1 := y1.below l6
          have x2 := y2.below l6
          have x4 := y4.below l6
          have x5 := y5.below l6
          have hE6 := hE5.below l6
          have hF6 := hF5.below l6
          have l16 := below_via l15 l6
          clear y1 y2 y4 y5 hE5 hF5 l15 l6
          cases r with
          | true =>
            have hY := hr.1 rfl
            clear hr
            have e0 := hE6.c0
            have e1 := hE6.c1
            have e2 := hE6.c2
            have d0 := hF6.c0
            have d1 := hF6.c1
            have d2 := hF6.c2
            go_wp2_with fail
            refine (conflicts_any t0 b1 len1 c1 f1 b2 len2 c2 f2 t3 b4 len4 c4 f4 b5 len5 c5 f5 _ x1 x2 x4 x5 (by omega)).mono ?_
            rintro e w7 ⟨r, rfl, hr, l7⟩
            have er : r = true := hr.2 ⟨hne, .inr (.inr hY)⟩
            subst er
            clear hr
            go_wp2
            go_ret
            exact ⟨rfl, below_via l16 l7⟩
          | false =>
            have hN2 : ¬ Meet f2 len2 f5 len5 := fun h => by have := hr.2 h; cases this
            clear hr
            go_wp2_with fail
            refine (meets_any b1 len1 c1 f1 b5 len5 c5 f5 _ (by omega) (by omega) x1 x5).mono ?_
            rintro e w7 ⟨r, rfl, hr, l7⟩
            have y1 := x1.below l7
            have y2 := x2.below l7
            have y4 := x4.below l7
            have y5 := x5.below l7
            have hE7 := hE6.below l7
            have hF7 := hF6.below l7
            have l17 := below_via l16 l7
            have e0 := hE7.c0
            have e1 := hE7.c1
            have e2 := hE7.c2
            have d0 := hF7.c0
            have d1 := hF7.c1
            have d2 := hF7.c2
            have HR : Hid (r = true ↔ Meet f1 len1 f5 len5) := hr
            clear x1 x2 x4 x5 hE6 hF6 l16 l7 hr hE7 hF7
            go_wp2_with fail
            refine (conflicts_any t0 b1 len1 c1 f1 b2 len2 c2 f2 t3 b4 len4 c4 f4 b5 len5 c5 f5 _ y1 y2 y4 y5 (by omega)).mono ?_
            rintro e w8 ⟨r', rfl, hr', l8⟩
            have er : r' = r := by
              rw [Bool.eq_iff_iff, hr', HR.out]
              exact ⟨fun h => by rcases h.2 with h | h | h <;> first | exact h | exact absurd h hN1 | exact absurd h hN2, fun h => ⟨hne, .inl h⟩⟩
            subst er
            clear hr' HR
            go_wp2
            go_ret
            exact ⟨by simp, below_via l17 l8⟩

set_option maxRecDepth 100000 in
theorem lifted (os : Os) (started : os.Started) (H : Type) (enc : TypeId × Value → H) :
    ReturnsInHanded {} Try.checked os 8 .any (Rows.fnConflictsMatchesReadWriteRuleSpec.pre6 enc Try.prog Try.f8 Rows.fnConflictsMatchesReadWriteRuleRow.domain false) (Rows.fnConflictsMatchesReadWriteRuleSpec.post enc Try.prog Try.f8 false true false false) := by
  refine returnsInHanded_of_change (C := Try.checked) own started (by kernel_rfl) Try.func8
    (ChangeSpec.witness6 (enc := enc) (C := Try.checked) false ⟨#[], #[.string ByteArray.empty, .slice none 0 0, .slice none 0 0, .string ByteArray.empty, .slice none 0 0, .slice none 0 0], []⟩ 8 (by kernel_rfl) (by kernel_rfl) (by kernel_rfl) (by kernel_rfl)) ?_
  intro W base args ds gs before hval0 hW hcnd _
  have hval : ∀ (j : Nat) t v, Try.f8.params[j]? = some t → args[j]? = some v → Value.okWide Try.prog W .any base t v := hval0
  have hW' := hW
  obtain ⟨p, q, hA0, hV, rfl, hfz, hnd⟩ := hW
  have hA : DataW.TrodAll enc Try.prog W 0 (fun _ => true) true Try.f8.params.toList args.toList ds p := hA0
  rw [Try.params8] at hA hval
  obtain ⟨v0, vs0, d0, ds0, p0, q0, hargs, rfl, rfl, h0, r0⟩ := trodAll_cons hA
  obtain ⟨v1, vs1, d1, ds1, p1, q1, rfl, rfl, rfl, h1, r1⟩ := trodAll_cons r0
  obtain ⟨v2, vs2, d2, ds2, p2, q2, rfl, rfl, rfl, h2, r2⟩ := trodAll_cons r1
  obtain ⟨v3, vs3, d3, ds3, p3, q3, rfl, rfl, rfl, h3, r3⟩ := trodAll_cons r2
  obtain ⟨v4, vs4, d4, ds4, p4, q4, rfl, rfl, rfl, h4, r4⟩ := trodAll_cons r3
  obtain ⟨v5, vs5, d5, ds5, p5, q5, rfl, rfl, rfl, h5, r5⟩ := trodAll_cons r4
  obtain ⟨rfl, rfl, rfl⟩ := trodAll_nil r5
  obtain rfl : args = #[v0, v1, v2, v3, v4, v5] := by cases args; simp_all
  obtain ⟨rfl, rfl⟩ := trodVars_none hV
  obtain ⟨t0, rfl, rfl, rfl, z0⟩ := open_string Try.underlying9 (hval 0 9 v0 rfl rfl) h0
  obtain ⟨a1, len1, cap1, rfl⟩ := okWide_slice Try.underlying22 (hval 1 22 v1 rfl rfl)
  have k1 := h1
  have lt1 : ∀ x ∈ p1, x.block < W.heap.size := by obtain ⟨m, hm⟩ := k1; exact DataW.trod_lt m _ _ _ hm
  obtain ⟨f1, s1, m1, n1⟩ := open_list h1 lt1
  obtain ⟨a2, len2, cap2, rfl⟩ := okWide_slice Try.underlying22 (hval 2 22 v2 rfl rfl)
  have k2 := h2
  have lt2 : ∀ x ∈ p2, x.block < W.heap.size := by obtain ⟨m, hm⟩ := k2; exact DataW.trod_lt m _ _ _ hm
  obtain ⟨f2, s2, m2, n2⟩ := open_list h2 lt2
  obtain ⟨t3, rfl, rfl, rfl, z3⟩ := open_string Try.underlying9 (hval 3 9 v3 rfl rfl) h3
  obtain ⟨a4, len4, cap4, rfl⟩ := okWide_slice Try.underlying22 (hval 4 22 v4 rfl rfl)
  have k4 := h4
  have lt4 : ∀ x ∈ p4, x.block < W.heap.size := by obtain ⟨m, hm⟩ := k4; exact DataW.trod_lt m _ _ _ hm
  obtain ⟨f4, s4, m4, n4⟩ := open_list h4 lt4
  obtain ⟨a5, len5, cap5, rfl⟩ := okWide_slice Try.underlying22 (hval 5 22 v5 rfl rfl)
  have k5 := h5
  have lt5 : ∀ x ∈ p5, x.block < W.heap.size := by obtain ⟨m, hm⟩ := k5; exact DataW.trod_lt m _ _ _ hm
  obtain ⟨f5, s5, m5, n5⟩ := open_list h5 lt5
  clear hA0 hval0
  refine (walk t0 a1 len1 cap1 f1 a2 len2 cap2 f2 t3 a4 len4 cap4 f4 a5 len5 cap5 f5 W z0 s1 m1 n1 s2 m2 n2 z3 s4 m4 n4 s5 m5 n5).mono fun e W' ⟨he, bel⟩ => ?_
  subst he
  exact ⟨_, rfl, _, _, _, [], _, [], hW', trodAll_mk1 (shut_bool Try.underlying4 _), (trodAll_cons_mk (shut_string Try.underlying9 z0) (trodAll_cons_mk (Below.trod laidOut (by kernel_rfl) (of_decide_eq_true (by kernel_rfl)) k1 bel lt1) (trodAll_cons_mk (Below.trod laidOut (by kernel_rfl) (of_decide_eq_true (by kernel_rfl)) k2 bel lt2) (trodAll_cons_mk (shut_string Try.underlying9 z3) (trodAll_cons_mk (Below.trod laidOut (by kernel_rfl) (of_decide_eq_true (by kernel_rfl)) k4 bel lt4) (trodAll_cons_mk (Below.trod laidOut (by kernel_rfl) (of_decide_eq_true (by kernel_rfl)) k5 bel lt5) trodAll_mk0)))))), rfl, bel.frame _, fun h => by cases h⟩

theorem closed : joinedFacts Try.prog 8 Try.f8 Rows.fnConflictsMatchesReadWriteRuleSpec Rows.fnConflictsMatchesReadWriteRuleRow = true := by
  unfold joinedFacts
  rw [make_is, lifts_is, enter_is]
  kernel_rfl

theorem over : Rows.fnConflictsMatchesReadWriteRuleRow.holds Try.pinned (OpenSpec.ofChange Rows.fnConflictsMatchesReadWriteRuleSpec) :=
  OpenClaim.holds_of_wide 8 Try.f8 rfl rfl rfl rfl rfl rfl rfl ⟨rfl, rfl, rfl, rfl, rfl⟩ rfl rfl rfl rfl rfl (funcNamed_of_nodup names_are names_apart rfl) Try.func8 closed
    (of_decide_eq_true (by kernel_rfl)) (by unfold Func.isWrapper; first | (rw [if_pos (by decide +kernel)]; kernel_rfl) | (rw [if_neg (by decide +kernel)]; exact ⟨rfl, rfl⟩))
    (fun os started H enc _ => lifted os started H enc)

theorem proved : Rows.FnConflictsMatchesReadWriteRuleSaid := over
#print axioms proved

end Go.Proofs.Qxb6603406a.fnConflictsMatchesReadWriteRule
