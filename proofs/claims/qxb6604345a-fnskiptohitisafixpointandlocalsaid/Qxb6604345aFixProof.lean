/-
  Seat b6604345a: 'Rows.FnSkipToHitIsAFixpointAndLocalSaid' proved.
-/
import Derived.Test.Qxb6604345aBal
import Derived.Test.Qxb6604345aOpen
namespace Go.Proofs.Qxb6604345a.fnSkipToHitIsAFixpointAndLocal
open Go.ChangeShapes Go.WideShapes Go.ChangeAt Go.RowKit
open Go.ChangeMaps (open_string shut_string)
set_option linter.unusedVariables false

/-- It returns true; nothing that was there has turned. -/
def Truly (w : World) (e : Ending) (w' : World) : Prop := e = .returned (.bool true) ∧ Below w.heap.size w w'

set_option maxHeartbeats 2000000 in
set_option maxRecDepth 100000 in
theorem walk (a0 : Option Addr) (len0 cap0 : Nat) (f0 : Nat → ByteArray) (x1 : Int) (t2 : ByteArray) (w : World) (s0 : Strs w a0 len0 f0) (m0 : len0 ≤ maxLen) (n0 : a0 = none → len0 = 0 ∧ cap0 = 0) (z1 : (Lit.int .i64 x1).wf = true) (z2 : t2.size ≤ maxLen) :
    Calls Try.prog 4 #[.slice a0 len0 cap0, .int .i64 x1, .string t2] w (Truly w) := by
  have hZ := zzFix_any a0 len0 cap0 f0 x1 t2 w m0 s0 z2
  have m0' := m0
  have z2' := z2
  unfold maxLen at m0' z2'
  go_enter Try.func4, Try.ntmps4
  go_wp2_with fail
  refine hZ.mono ?_
  rintro e w' ⟨r, rfl, hz, hw⟩
  subst hw
  clear hZ
  have ALL : Hid (r = true → ∀ j, j < len0 → (f0 j).size ≤ 1048576) := hz
  clear hz
  cases r with
  | false =>
    go_wp2
    go_ret
    exact ⟨rfl, Below.refl _ _⟩
  | true =>
    have SZ : Hid (∀ j, j < len0 → (f0 j).size ≤ 1048576) := ALL.out rfl
    clear ALL
    by_cases hl : 65536 < len0
    · go_wp2
      go_ret
      exact ⟨rfl, Below.refl _ _⟩
    by_cases ht : 1048576 < t2.size
    · go_wp2
      go_ret
      exact ⟨rfl, Below.refl _ _⟩
    by_cases hs : (1048576 : Int) < t2.size + 16 * len0
    · go_wp2
      go_ret
      exact ⟨rfl, Below.refl _ _⟩
    have d1 : decide ((65536 : Int) < (len0 : Int)) = false := decide_eq_false (by omega)
    have d2 : decide ((1048576 : Int) < (t2.size : Int)) = false := decide_eq_false (by omega)
    have d3 : decide ((1048576 : Int) < (t2.size : Int) + 16 * (len0 : Int)) = false := decide_eq_false (by omega)
    go_wp2
    go_loop [7, 8] (fun z i => ∃ k : Nat, k ≤ len0 ∧ i = .int .i64 k ∧ ∃ n : Int, 0 ≤ n ∧ n ≤ 1048576 ∧ z = .int .i64 n) (fun _ i => len0 - (intOf i).toNat)
    case atStart => exact ⟨0, Nat.zero_le _, rfl, _, by omega, by omega, rfl⟩
    case round =>
      obtain ⟨k, hk, rfl, n, hn0, hn1, rfl⟩ := hrel
      by_cases hlt : k < len0
      · rcases s0 with s0 | ⟨b, off, rfl, hb, hc, hs⟩
        · omega
        · have hck := hc k hlt
          have hsk := SZ.out k hlt
          clear hc hs
          go_wp2
          · go_ret
            exact ⟨rfl, Below.refl _ _⟩
          · go_round
            case rel => exact ⟨k + 1, by omega, by go_num, n + (f0 k).size, by omega, by omega, rfl⟩
            case measure => simp [intOf]; omega
      · by_cases hx0 : x1 < 0
        · go_wp2
          go_ret
          exact ⟨rfl, Below.refl _ _⟩
        by_cases hx1 : (len0 : Int) < x1
        · go_wp2
          go_ret
          exact ⟨rfl, Below.refl _ _⟩
        obtain ⟨i, rfl⟩ : ∃ i : Nat, x1 = (i : Int) := ⟨x1.toNat, by omega⟩
        have hi : i ≤ len0 := by omega
        clear hx0 hx1
        go_wp2_with fail
        refine (clone_any a0 len0 cap0 f0 _ (by omega) s0 n0).mono ?_
        rintro e w1 ⟨a1, rfl, s1, b1⟩
        clear s0 n0
        go_wp2_with fail
        refine (zzSkipTo_any a1 len0 len0 f0 i t2 _ (by omega) s1 hi).mono ?_
        rintro e w2 ⟨r, rfl, hr, hw⟩
        subst hw
        have hlo := hr.lo
        have hhi := hr.hi
        have HR : Hid (Hit f0 t2 len0 i r) := hr
        clear hr
        by_cases hend : r = len0
        · subst hend
          go_wp2
          go_ret
          exact ⟨rfl, b1⟩
        · have hlt : r < len0 := by omega
          have e0 : ((r : Int) == (len0 : Int)) = false := beq_eq_false_iff_ne.2 (by omega)
          obtain ⟨hdz, hst⟩ : D f0 i r = 0 ∧ Stopper t2 (f0 r) := by
            rcases HR.out.yes with e | y
            · omega
            · exact y
          have HDZ : Hid (D f0 i r = 0) := hdz
          have HST : Hid (Stopper t2 (f0 r)) := hst
          clear hdz hst
          obtain ⟨b, off, ha, hck, hblt⟩ : ∃ b off, a1 = some ⟨b, off, none⟩ ∧ w2.cell? ⟨b, off + r, none⟩ = some (.string (f0 r)) ∧ b < w2.heap.size := by
            rcases s1 with h | ⟨b, off, ha, hb, hc, _⟩
            · omega
            · exact ⟨b, off, ha, hc r hlt, hb⟩
          subst ha
          cases he : ((f0 r).toList == t2.toList) with
          | true =>
            go_wp2_with fail
            refine (balanced_any _ len0 len0 f0 i r _ (by omega) s1 hlo hhi (fun k h1 h2 => HR.out.nonneg h1 h2) HDZ.out).mono ?_
            rintro e w3 ⟨rfl, hw⟩
            subst hw
            go_wp2_with fail
            refine (zzSkipTo_any _ len0 len0 f0 r t2 _ (by omega) s1 hhi).mono ?_
            rintro e w3 ⟨r', rfl, hr', hw⟩
            subst hw
            have e := hr'.unique (HR.out.again hlt)
            subst e
            clear hr'
            have eqr : ((r' : Int) != (r' : Int)) = false := by simp
            go_wp2_with fail
            refine (zzSkipTo_any _ (r' + 1) len0 f0 i t2 _ (by omega) (s1.shorter (by omega)) (by omega)).mono ?_
            rintro e w4 ⟨q, rfl, hq, hw⟩
            subst hw
            have e := hq.unique (HR.out.cut hlt)
            subst e
            clear hq HR
            go_wp2
            go_ret
            exact ⟨by simp, b1⟩
          | false =>
            have hcl : clB (f0 r) = true := by
              rcases HST.out with h | h
              · exact absurd h (ne_of_lists he)
              · exact h
            go_wp2_with fail
            refine (closer_any (f0 r) _).mono ?_
            rintro e w3 ⟨rfl, hw⟩
            subst hw
            go_wp2_with fail
            refine (balanced_any _ len0 len0 f0 i r _ (by omega) s1 hlo hhi (fun k h1 h2 => HR.out.nonneg h1 h2) HDZ.out).mono ?_
            rintro e w3 ⟨rfl, hw⟩
            subst hw
            go_wp2_with fail
            refine (zzSkipTo_any _ len0 len0 f0 r t2 _ (by omega) s1 hhi).mono ?_
            rintro e w3 ⟨r', rfl, hr', hw⟩
            subst hw
            have e := hr'.unique (HR.out.again hlt)
            subst e
            clear hr'
            have eqr : ((r' : Int) != (r' : Int)) = false := by simp
            go_wp2_with fail
            refine (zzSkipTo_any _ (r' + 1) len0 f0 i t2 _ (by omega) (s1.shorter (by omega)) (by omega)).mono ?_
            rintro e w4 ⟨q, rfl, hq, hw⟩
            subst hw
            have e := hq.unique (HR.out.cut hlt)
            subst e
            clear hq HR
            go_wp2
            go_ret
            exact ⟨by simp, b1⟩

set_option maxRecDepth 100000 in
theorem lifted (os : Os) (started : os.Started) (H : Type) (enc : TypeId × Value → H) :
    ReturnsInHanded {} Try.checked os 4 .any (Rows.fnSkipToHitIsAFixpointAndLocalSpec.pre6 enc Try.prog Try.f4 Rows.fnSkipToHitIsAFixpointAndLocalRow.domain false) (Rows.fnSkipToHitIsAFixpointAndLocalSpec.post enc Try.prog Try.f4 false true false false) := by
  refine returnsInHanded_of_change (C := Try.checked) own started (by kernel_rfl) Try.func4
    (ChangeSpec.witness6 (enc := enc) (C := Try.checked) false ⟨#[], #[.slice none 0 0, .int .i64 0, .string ByteArray.empty], []⟩ 8 (by kernel_rfl) (by kernel_rfl) (by kernel_rfl) (by kernel_rfl)) ?_
  intro W base args ds gs before hval0 hW hcnd _
  have hval : ∀ (j : Nat) t v, Try.f4.params[j]? = some t → args[j]? = some v → Value.okWide Try.prog W .any base t v := hval0
  have hW' := hW
  obtain ⟨p, q, hA0, hV, rfl, hfz, hnd⟩ := hW
  have hA : DataW.TrodAll enc Try.prog W 0 (fun _ => true) true Try.f4.params.toList args.toList ds p := hA0
  rw [Try.params4] at hA hval
  obtain ⟨v0, vs0, d0, ds0, p0, q0, hargs, rfl, rfl, h0, r0⟩ := trodAll_cons hA
  obtain ⟨v1, vs1, d1, ds1, p1, q1, rfl, rfl, rfl, h1, r1⟩ := trodAll_cons r0
  obtain ⟨v2, vs2, d2, ds2, p2, q2, rfl, rfl, rfl, h2, r2⟩ := trodAll_cons r1
  obtain ⟨rfl, rfl, rfl⟩ := trodAll_nil r2
  obtain rfl : args = #[v0, v1, v2] := by cases args; simp_all
  obtain ⟨rfl, rfl⟩ := trodVars_none hV
  obtain ⟨a0, len0, cap0, rfl⟩ := okWide_slice Try.underlying22 (hval 0 22 v0 rfl rfl)
  have k0 := h0
  have lt0 : ∀ x ∈ p0, x.block < W.heap.size := by obtain ⟨m, hm⟩ := k0; exact DataW.trod_lt m _ _ _ hm
  obtain ⟨f0, s0, m0, n0⟩ := open_list h0 lt0
  obtain ⟨x1, rfl, rfl, rfl, z1⟩ := open_int Try.underlying3 (hval 1 3 v1 rfl rfl) h1
  obtain ⟨t2, rfl, rfl, rfl, z2⟩ := open_string Try.underlying9 (hval 2 9 v2 rfl rfl) h2
  clear hA0 hval0
  refine (walk a0 len0 cap0 f0 x1 t2 W s0 m0 n0 z1 z2).mono fun e W' ⟨he, bel⟩ => ?_
  subst he
  exact ⟨_, rfl, _, _, _, [], _, [], hW', trodAll_mk1 (shut_bool Try.underlying4 _), (trodAll_cons_mk (Below.trod laidOut (by kernel_rfl) (of_decide_eq_true (by kernel_rfl)) k0 bel lt0) (trodAll_cons_mk (shut_int Try.underlying3 z1) (trodAll_cons_mk (shut_string Try.underlying9 z2) trodAll_mk0))), rfl, bel.frame _, fun h => by cases h⟩

theorem closed : joinedFacts Try.prog 4 Try.f4 Rows.fnSkipToHitIsAFixpointAndLocalSpec Rows.fnSkipToHitIsAFixpointAndLocalRow = true := by
  unfold joinedFacts
  rw [make_is, lifts_is, enter_is]
  kernel_rfl

theorem over : Rows.fnSkipToHitIsAFixpointAndLocalRow.holds Try.pinned (OpenSpec.ofChange Rows.fnSkipToHitIsAFixpointAndLocalSpec) :=
  OpenClaim.holds_of_wide 4 Try.f4 rfl rfl rfl rfl rfl rfl rfl ⟨rfl, rfl, rfl, rfl, rfl⟩ rfl rfl rfl rfl rfl (funcNamed_of_nodup names_are names_apart rfl) Try.func4 closed
    (of_decide_eq_true (by kernel_rfl)) (by unfold Func.isWrapper; first | (rw [if_pos (by decide +kernel)]; kernel_rfl) | (rw [if_neg (by decide +kernel)]; exact ⟨rfl, rfl⟩))
    (fun os started H enc _ => lifted os started H enc)

theorem proved : Rows.FnSkipToHitIsAFixpointAndLocalSaid := over
#print axioms proved

end Go.Proofs.Qxb6604345a.fnSkipToHitIsAFixpointAndLocal
