/-
  Seat b6603406a: 'Rows.FnHoldsOneOfSelfSaid' proved: a list meets itself just if it is not empty.
-/
import Derived.Test.Qxb6603406aHolds
import Derived.Test.Qxb6603406aOpen
namespace Go.Proofs.Qxb6603406a.fnHoldsOneOfSelf
open Go.ChangeShapes Go.WideShapes Go.ChangeAt Go.RowKit
open Go.ChangeMaps (open_string shut_string)
set_option linter.unusedVariables false

/-- It returns true; nothing that was there has turned. -/
def Truly (w : World) (e : Ending) (w' : World) : Prop := e = .returned (.bool true) ∧ Below w.heap.size w w'

theorem meet_self (f : Nat → ByteArray) (n : Nat) : Meet f n f n ↔ 0 < n :=
  ⟨fun ⟨i, _, hi, _, _⟩ => by omega, fun h => ⟨0, 0, h, h, rfl⟩⟩

set_option maxHeartbeats 400000 in
theorem walk (a0 : Option Addr) (len0 cap0 : Nat) (f0 : Nat → ByteArray) (w : World) (s0 : Strs w a0 len0 f0) (m0 : len0 ≤ maxLen) (n0 : a0 = none → len0 = 0 ∧ cap0 = 0) :
    Calls Try.prog 5 #[.slice a0 len0 cap0] w (Truly w) := by
  have hZ := zzSelf_any a0 len0 cap0 f0 w m0 s0
  have hA := addBytes_any 0 a0 len0 cap0 f0 w (by omega) m0 s0
  go_enter Try.func5, Try.ntmps5
  go_wp2_with fail
  refine hZ.mono ?_
  rintro e w' ⟨r, rfl, rfl⟩
  clear hZ
  cases r with
  | false =>
    go_wp2
    go_ret
    exact ⟨rfl, Below.refl _ _⟩
  | true =>
    go_wp2_with fail
    refine hA.mono ?_
    rintro e w' ⟨n, rfl, ⟨hn1, hn2, hn3⟩, rfl⟩
    clear hA
    by_cases hneg : n < 0
    · go_wp2
      go_ret
      exact ⟨rfl, Below.refl _ _⟩
    · have hlen := (hn3 (by omega)).2
      clear hn3
      go_wp2_with fail
      refine (clone_any a0 len0 cap0 f0 _ (by omega) s0 n0).mono ?_
      rintro e w1 ⟨a1, cap1, rfl, s1, b1⟩
      go_wp2_with fail
      refine (zzHolds_any a1 len0 cap1 f0 a1 len0 cap1 f0 _ (by omega) (by omega) s1 s1).mono ?_
      rintro e w2 ⟨r, rfl, hr, b2⟩
      have HR : Hid (r = true ↔ 0 < len0) := hr.trans (meet_self f0 len0)
      clear hr
      go_wp2
      go_ret
      have hbit : (r == decide (0 < len0)) = true := by
        rw [beq_iff_eq, Bool.eq_iff_iff, HR.out, decide_eq_true_iff]
      show Truly _ (.returned (.bool (r == decide (0 < len0)))) _
      rw [hbit]
      exact ⟨rfl, b1.trans (b2.mono b1.size)⟩

set_option maxRecDepth 100000 in
theorem lifted (os : Os) (started : os.Started) (H : Type) (enc : TypeId × Value → H) :
    ReturnsInHanded {} Try.checked os 5 .any (Rows.fnHoldsOneOfSelfSpec.pre6 enc Try.prog Try.f5 Rows.fnHoldsOneOfSelfRow.domain false) (Rows.fnHoldsOneOfSelfSpec.post enc Try.prog Try.f5 false true false false) := by
  refine returnsInHanded_of_change (C := Try.checked) own started (by kernel_rfl) Try.func5
    (ChangeSpec.witness6 (enc := enc) (C := Try.checked) false ⟨#[], #[.slice none 0 0], []⟩ 8 (by kernel_rfl) (by kernel_rfl) (by kernel_rfl) (by kernel_rfl)) ?_
  intro W base args ds gs before hval0 hW hcnd _
  have hval : ∀ (j : Nat) t v, Try.f5.params[j]? = some t → args[j]? = some v → Value.okWide Try.prog W .any base t v := hval0
  have hW' := hW
  obtain ⟨p, q, hA0, hV, rfl, hfz, hnd⟩ := hW
  have hA : DataW.TrodAll enc Try.prog W 0 (fun _ => true) true Try.f5.params.toList args.toList ds p := hA0
  rw [Try.params5] at hA hval
  obtain ⟨v0, vs0, d0, ds0, p0, q0, hargs, rfl, rfl, h0, r0⟩ := trodAll_cons hA
  obtain ⟨rfl, rfl, rfl⟩ := trodAll_nil r0
  obtain rfl : args = #[v0] := by cases args; simp_all
  obtain ⟨rfl, rfl⟩ := trodVars_none hV
  obtain ⟨a0, len0, cap0, rfl⟩ := okWide_slice Try.underlying22 (hval 0 22 v0 rfl rfl)
  have k0 := h0
  have lt0 : ∀ x ∈ p0, x.block < W.heap.size := by obtain ⟨m, hm⟩ := k0; exact DataW.trod_lt m _ _ _ hm
  obtain ⟨f0, s0, m0, n0⟩ := open_list h0 lt0
  clear hA0 hval0
  refine (walk a0 len0 cap0 f0 W s0 m0 n0).mono fun e W' ⟨he, bel⟩ => ?_
  subst he
  exact ⟨_, rfl, _, _, _, [], _, [], hW', trodAll_mk1 (shut_bool Try.underlying4 _), (trodAll_cons_mk (Below.trod laidOut (by kernel_rfl) (of_decide_eq_true (by kernel_rfl)) k0 bel lt0) trodAll_mk0), rfl, bel.frame _, fun h => by cases h⟩

theorem closed : joinedFacts Try.prog 5 Try.f5 Rows.fnHoldsOneOfSelfSpec Rows.fnHoldsOneOfSelfRow = true := by
  unfold joinedFacts
  rw [make_is, lifts_is, enter_is]
  kernel_rfl

theorem over : Rows.fnHoldsOneOfSelfRow.holds Try.pinned (OpenSpec.ofChange Rows.fnHoldsOneOfSelfSpec) :=
  OpenClaim.holds_of_wide 5 Try.f5 rfl rfl rfl rfl rfl rfl rfl ⟨rfl, rfl, rfl, rfl, rfl⟩ rfl rfl rfl rfl rfl (funcNamed_of_nodup names_are names_apart rfl) Try.func5 closed
    (of_decide_eq_true (by kernel_rfl)) (by unfold Func.isWrapper; first | (rw [if_pos (by decide +kernel)]; kernel_rfl) | (rw [if_neg (by decide +kernel)]; exact ⟨rfl, rfl⟩))
    (fun os started H enc _ => lifted os started H enc)

theorem proved : Rows.FnHoldsOneOfSelfSaid := over
#print axioms proved

end Go.Proofs.Qxb6603406a.fnHoldsOneOfSelf
