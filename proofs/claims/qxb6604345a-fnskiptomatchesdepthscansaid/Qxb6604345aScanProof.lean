/-
  Seat b6604345a: 'Rows.FnSkipToMatchesDepthScanSaid' proved.
-/
import Derived.Test.Qxb6604345aWalks
import Derived.Test.Qxb6604345aOpen
namespace Go.Proofs.Qxb6604345a.fnSkipToMatchesDepthScan
open Go.ChangeShapes Go.WideShapes Go.ChangeAt Go.RowKit
open Go.ChangeMaps (open_string shut_string)
set_option linter.unusedVariables false

/-- It returns true; nothing that was there has turned. -/
def Truly (w : World) (e : Ending) (w' : World) : Prop := e = .returned (.bool true) ∧ Below w.heap.size w w'

set_option maxHeartbeats 2000000 in
set_option maxRecDepth 100000 in
theorem walk (a0 : Option Addr) (len0 cap0 : Nat) (f0 : Nat → ByteArray) (x1 : Int) (t2 : ByteArray) (w : World) (s0 : Strs w a0 len0 f0) (m0 : len0 ≤ maxLen) (n0 : a0 = none → len0 = 0 ∧ cap0 = 0) (z1 : (Lit.int .i64 x1).wf = true) (z2 : t2.size ≤ maxLen) :
    Calls Try.prog 3 #[.slice a0 len0 cap0, .int .i64 x1, .string t2] w (Truly w) := by
  have hZ := zzScan_any a0 len0 cap0 f0 x1 t2 w m0 s0 z2
  have m0' := m0
  have z2' := z2
  unfold maxLen at m0' z2'
  go_enter Try.func3, Try.ntmps3
  go_wp2_with fail
  refine hZ.mono ?_
  rintro e w' ⟨r, rfl, hz, hw⟩
  subst hw
  clear hZ
  have ALL : Hid (r = true → ∀ j, j < len0 → (f0 j).size ≤ 1048576) := hz
  clear hz
  cases r with
  | false =>
    go_wp2
    go_ret
    exact ⟨rfl, Below.refl _ _⟩
  | true =>
    have SZ : Hid (∀ j, j < len0 → (f0 j).size ≤ 1048576) := ALL.out rfl
    clear ALL
    by_cases hl : 65536 < len0
    · go_wp2
      go_ret
      exact ⟨rfl, Below.refl _ _⟩
    by_cases ht : 1048576 < t2.size
    · go_wp2
      go_ret
      exact ⟨rfl, Below.refl _ _⟩
    by_cases hs : (1048576 : Int) < t2.size + 16 * len0
    · go_wp2
      go_ret
      exact ⟨rfl, Below.refl _ _⟩
    have d1 : decide ((65536 : Int) < (len0 : Int)) = false := decide_eq_false (by omega)
    have d2 : decide ((1048576 : Int) < (t2.size : Int)) = false := decide_eq_false (by omega)
    have d3 : decide ((1048576 : Int) < (t2.size : Int) + 16 * (len0 : Int)) = false := decide_eq_false (by omega)
    go_wp2
    go_loop [7, 8] (fun z i => ∃ k : Nat, k ≤ len0 ∧ i = .int .i64 k ∧ ∃ n : Int, 0 ≤ n ∧ n ≤ 1048576 ∧ z = .int .i64 n) (fun _ i => len0 - (intOf i).toNat)
    case atStart => exact ⟨0, Nat.zero_le _, rfl, _, by omega, by omega, rfl⟩
    case round =>
      obtain ⟨k, hk, rfl, n, hn0, hn1, rfl⟩ := hrel
      by_cases hlt : k < len0
      · rcases s0 with s0 | ⟨b, off, rfl, hb, hc, hs⟩
        · omega
        · have hck := hc k hlt
          have hsk := SZ.out k hlt
          clear hc hs
          go_wp2
          · go_ret
            exact ⟨rfl, Below.refl _ _⟩
          · go_round
            case rel => exact ⟨k + 1, by omega, by go_num, n + (f0 k).size, by omega, by omega, rfl⟩
            case measure => simp [intOf]; omega
      · by_cases hx0 : x1 < 0
        · go_wp2
          go_ret
          exact ⟨rfl, Below.refl _ _⟩
        by_cases hx1 : (len0 : Int) < x1
        · go_wp2
          go_ret
          exact ⟨rfl, Below.refl _ _⟩
        obtain ⟨i, rfl⟩ : ∃ i : Nat, x1 = (i : Int) := ⟨x1.toNat, by omega⟩
        have hi : i ≤ len0 := by omega
        clear hx0 hx1
        go_wp2_with fail
        refine (clone_any a0 len0 cap0 f0 _ (by omega) s0 n0).mono ?_
        rintro e w1 ⟨a1, rfl, s1, b1⟩
        clear s0 n0
        go_wp2_with fail
        refine (zzSkipTo_any a1 len0 len0 f0 i t2 _ (by omega) s1 hi).mono ?_
        rintro e w2 ⟨r, rfl, hr, hw⟩
        subst hw
        have HR : Hid (Hit f0 t2 len0 i r) := hr
        clear hr
        go_wp2_with fail
        refine (depthScan_any a1 len0 len0 f0 i t2 _ (by omega) s1 hi).mono ?_
        rintro e w3 ⟨r', rfl, hr', hw⟩
        subst hw
        have e := HR.out.unique hr'
        subst e
        clear hr' HR
        go_wp2
        go_ret
        exact ⟨by simp, b1⟩

set_option maxRecDepth 100000 in
theorem lifted (os : Os) (started : os.Started) (H : Type) (enc : TypeId × Value → H) :
    ReturnsInHanded {} Try.checked os 3 .any (Rows.fnSkipToMatchesDepthScanSpec.pre6 enc Try.prog Try.f3 Rows.fnSkipToMatchesDepthScanRow.domain false) (Rows.fnSkipToMatchesDepthScanSpec.post enc Try.prog Try.f3 false true false false) := by
  refine returnsInHanded_of_change (C := Try.checked) own started (by kernel_rfl) Try.func3
    (ChangeSpec.witness6 (enc := enc) (C := Try.checked) false ⟨#[], #[.slice none 0 0, .int .i64 0, .string ByteArray.empty], []⟩ 8 (by kernel_rfl) (by kernel_rfl) (by kernel_rfl) (by kernel_rfl)) ?_
  intro W base args ds gs before hval0 hW hcnd _
  have hval : ∀ (j : Nat) t v, Try.f3.params[j]? = some t → args[j]? = some v → Value.okWide Try.prog W .any base t v := hval0
  have hW' := hW
  obtain ⟨p, q, hA0, hV, rfl, hfz, hnd⟩ := hW
  have hA : DataW.TrodAll enc Try.prog W 0 (fun _ => true) true Try.f3.params.toList args.toList ds p := hA0
  rw [Try.params3] at hA hval
  obtain ⟨v0, vs0, d0, ds0, p0, q0, hargs, rfl, rfl, h0, r0⟩ := trodAll_cons hA
  obtain ⟨v1, vs1, d1, ds1, p1, q1, rfl, rfl, rfl, h1, r1⟩ := trodAll_cons r0
  obtain ⟨v2, vs2, d2, ds2, p2, q2, rfl, rfl, rfl, h2, r2⟩ := trodAll_cons r1
  obtain ⟨rfl, rfl, rfl⟩ := trodAll_nil r2
  obtain rfl : args = #[v0, v1, v2] := by cases args; simp_all
  obtain ⟨rfl, rfl⟩ := trodVars_none hV
  obtain ⟨a0, len0, cap0, rfl⟩ := okWide_slice Try.underlying22 (hval 0 22 v0 rfl rfl)
  have k0 := h0
  have lt0 : ∀ x ∈ p0, x.block < W.heap.size := by obtain ⟨m, hm⟩ := k0; exact DataW.trod_lt m _ _ _ hm
  obtain ⟨f0, s0, m0, n0⟩ := open_list h0 lt0
  obtain ⟨x1, rfl, rfl, rfl, z1⟩ := open_int Try.underlying3 (hval 1 3 v1 rfl rfl) h1
  obtain ⟨t2, rfl, rfl, rfl, z2⟩ := open_string Try.underlying9 (hval 2 9 v2 rfl rfl) h2
  clear hA0 hval0
  refine (walk a0 len0 cap0 f0 x1 t2 W s0 m0 n0 z1 z2).mono fun e W' ⟨he, bel⟩ => ?_
  subst he
  exact ⟨_, rfl, _, _, _, [], _, [], hW', trodAll_mk1 (shut_bool Try.underlying4 _), (trodAll_cons_mk (Below.trod laidOut (by kernel_rfl) (of_decide_eq_true (by kernel_rfl)) k0 bel lt0) (trodAll_cons_mk (shut_int Try.underlying3 z1) (trodAll_cons_mk (shut_string Try.underlying9 z2) trodAll_mk0))), rfl, bel.frame _, fun h => by cases h⟩

theorem closed : joinedFacts Try.prog 3 Try.f3 Rows.fnSkipToMatchesDepthScanSpec Rows.fnSkipToMatchesDepthScanRow = true := by
  unfold joinedFacts
  rw [make_is, lifts_is, enter_is]
  kernel_rfl

theorem over : Rows.fnSkipToMatchesDepthScanRow.holds Try.pinned (OpenSpec.ofChange Rows.fnSkipToMatchesDepthScanSpec) :=
  OpenClaim.holds_of_wide 3 Try.f3 rfl rfl rfl rfl rfl rfl rfl ⟨rfl, rfl, rfl, rfl, rfl⟩ rfl rfl rfl rfl rfl (funcNamed_of_nodup names_are names_apart rfl) Try.func3 closed
    (of_decide_eq_true (by kernel_rfl)) (by unfold Func.isWrapper; first | (rw [if_pos (by decide +kernel)]; kernel_rfl) | (rw [if_neg (by decide +kernel)]; exact ⟨rfl, rfl⟩))
    (fun os started H enc _ => lifted os started H enc)

theorem proved : Rows.FnSkipToMatchesDepthScanSaid := over
#print axioms proved

end Go.Proofs.Qxb6604345a.fnSkipToMatchesDepthScan
