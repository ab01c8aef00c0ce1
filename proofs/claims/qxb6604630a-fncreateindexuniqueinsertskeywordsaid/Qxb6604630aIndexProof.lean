/-
  Seat b6604630a: 'Rows.FnCreateIndexUniqueInsertsKeywordSaid' proved. The frame is the given shell's.
-/
import Derived.Test.Qxb6604630aRows
import Derived.WalkKit
import Derived.ProofKit
import Derived.OpenShut
import Derived.ShutString
import Derived.WalkLawsBesides
import Derived.WalkSpells
import Derived.Deep.QuietTactic
import Derived.BigQuiet
import Derived.HeadItems
namespace Go.Proofs.Qxb6604630a.fnCreateIndexUniqueInsertsKeyword
open Go.ChangeShapes Go.WideShapes Go.ChangeAt Go.RowKit
open Go.ChangeMaps (open_string shut_string)
set_option linter.unusedVariables false

theorem own : ownKnob Try.prog.godebug = none := by kernel_rfl

set_option maxHeartbeats 1000000 in
set_option maxRecDepth 100000 in
/-- The first blank of the plain form stands at place 6. -/
theorem index_six (w : World) : Calls Try.prog 7 #[.string (⟨#[67, 82, 69, 65, 84, 69, 32, 73, 78, 68, 69, 88, 32]⟩ : ByteArray), .string (⟨#[32]⟩ : ByteArray)] w fun e w' => e = .returned (.int .i64 6) ∧ w' = w := by
  have e0 : (((⟨#[67, 82, 69, 65, 84, 69, 32, 73, 78, 68, 69, 88, 32]⟩ : ByteArray).extract 0 1).toList == [32]) = false := by decide +kernel
  have e1 : (((⟨#[67, 82, 69, 65, 84, 69, 32, 73, 78, 68, 69, 88, 32]⟩ : ByteArray).extract 1 2).toList == [32]) = false := by decide +kernel
  have e2 : (((⟨#[67, 82, 69, 65, 84, 69, 32, 73, 78, 68, 69, 88, 32]⟩ : ByteArray).extract 2 3).toList == [32]) = false := by decide +kernel
  have e3 : (((⟨#[67, 82, 69, 65, 84, 69, 32, 73, 78, 68, 69, 88, 32]⟩ : ByteArray).extract 3 4).toList == [32]) = false := by decide +kernel
  have e4 : (((⟨#[67, 82, 69, 65, 84, 69, 32, 73, 78, 68, 69, 88, 32]⟩ : ByteArray).extract 4 5).toList == [32]) = false := by decide +kernel
  have e5 : (((⟨#[67, 82, 69, 65, 84, 69, 32, 73, 78, 68, 69, 88, 32]⟩ : ByteArray).extract 5 6).toList == [32]) = false := by decide +kernel
  have e6 : (((⟨#[67, 82, 69, 65, 84, 69, 32, 73, 78, 68, 69, 88, 32]⟩ : ByteArray).extract 6 7).toList == [32]) = true := by decide +kernel
  go_enter Try.func7, Try.ntmps7
  go_wp2
  refine wp_loop_rounds 7 ?_
  rw [rounds_succ]
  go_wp2
  rw [rounds_succ]
  go_wp2
  rw [rounds_succ]
  go_wp2
  rw [rounds_succ]
  go_wp2
  rw [rounds_succ]
  go_wp2
  rw [rounds_succ]
  go_wp2
  rw [rounds_succ]
  go_wp2
  go_ret
  exact ⟨rfl, rfl⟩

theorem grown_drewN (w : World) (n : Nat) : Grown w (w.drewN n) := ⟨⟨rfl, rfl, (World.keptBut_refl w (fun _ => False)).2.2⟩, fun _ => rfl, Nat.le_refl _⟩

set_option maxHeartbeats 1000000 in
set_option maxRecDepth 100000 in
theorem walk (a0 : Bool) (w : World) :
    Calls Try.prog 3 #[.bool a0] w fun e w' => e = .returned (.bool true) ∧ Grown w w' := by
  have g1 : (((⟨#[67, 82, 69, 65, 84, 69, 32, 85, 78, 73, 81, 85, 69, 32, 73, 78, 68, 69, 88, 32]⟩ : ByteArray).extract 0 7).toList == ((⟨#[67, 82, 69, 65, 84, 69, 32, 73, 78, 68, 69, 88, 32]⟩ : ByteArray).extract 0 7).toList) = true := by decide +kernel
  have g2 : (((⟨#[67, 82, 69, 65, 84, 69, 32, 85, 78, 73, 81, 85, 69, 32, 73, 78, 68, 69, 88, 32]⟩ : ByteArray).extract 7 14).toList == [85, 78, 73, 81, 85, 69, 32]) = true := by decide +kernel
  have g3 : (((⟨#[67, 82, 69, 65, 84, 69, 32, 85, 78, 73, 81, 85, 69, 32, 73, 78, 68, 69, 88, 32]⟩ : ByteArray).extract 14 20).toList == ((⟨#[67, 82, 69, 65, 84, 69, 32, 73, 78, 68, 69, 88, 32]⟩ : ByteArray).extract 7 13).toList) = true := by decide +kernel
  cases a0 with
  | true =>
    go_enter Try.func3, Try.ntmps3
    go_wp2_with (first | (go_at_call 7; refine (index_six _).mono ?_; rintro e w' ⟨rfl, rfl⟩) | go_in)
    go_quiet (fail)
    go_wp2
    go_ret
    exact ⟨rfl, grown_drewN _ _⟩
  | false =>
    go_enter Try.func3, Try.ntmps3
    go_wp2_with (first | (go_at_call 7; refine (index_six _).mono ?_; rintro e w' ⟨rfl, rfl⟩) | go_in)
    go_quiet (fail)
    go_wp2
    go_ret
    exact ⟨rfl, grown_drewN _ _⟩

/-! ### the row -/
set_option maxRecDepth 100000 in
theorem lifted (os : Os) (started : os.Started) (H : Type) (enc : TypeId × Value → H) :
    ReturnsInHanded {} Try.checked os 3 .any (Rows.fnCreateIndexUniqueInsertsKeywordSpec.pre6 enc Try.prog Try.f3 Rows.fnCreateIndexUniqueInsertsKeywordRow.domain false) (Rows.fnCreateIndexUniqueInsertsKeywordSpec.post enc Try.prog Try.f3 false true false false) := by
  refine returnsInHanded_of_change (C := Try.checked) own started (by kernel_rfl) Try.func3
    (ChangeSpec.witness6 (enc := enc) (C := Try.checked) false ⟨#[], #[.bool false], []⟩ 8 (by kernel_rfl) (by kernel_rfl) (by kernel_rfl) (by kernel_rfl)) ?_
  intro W base args ds gs before hval0 hW hcnd _
  have hval : ∀ (j : Nat) t v, Try.f3.params[j]? = some t → args[j]? = some v → Value.okWide Try.prog W .any base t v := hval0
  have hW' := hW
  obtain ⟨p, q, hA0, hV, rfl, hfz, hnd⟩ := hW
  have hA : DataW.TrodAll enc Try.prog W 0 (fun _ => true) true Try.f3.params.toList args.toList ds p := hA0
  rw [Try.params3] at hA hval
  obtain ⟨v0, vs0, d0, ds0, p0, q0, hargs, rfl, rfl, h0, r0⟩ := trodAll_cons hA
  obtain ⟨rfl, rfl, rfl⟩ := trodAll_nil r0
  obtain rfl : args = #[v0] := by cases args; simp_all
  obtain ⟨rfl, rfl⟩ := trodVars_none hV
  obtain ⟨a0, rfl, rfl, rfl⟩ := open_bool Try.underlying4 (hval 0 4 v0 rfl rfl) h0
  clear hA0 hval0
  simp only [List.append_nil] at hW'
  refine (walk a0 W).mono fun e W' ⟨he, hg⟩ => ?_
  subst he
  exact ⟨_, rfl, post_of_same (pa := []) (pv := []) hW' (fun _ _ _ => (trodAll_cons_mk (shut_bool Try.underlying4 _) trodAll_mk0)) (fun sp _ => (trodAll_cons_mk (shut_bool Try.underlying4 _) trodAll_mk0)) (fun _ _ => rfl) rfl
    (hg.frame _) hg.2.1 (ok_one (by kernel_rfl) rfl (okWide_bool_mk Try.underlying4 _))⟩

/-- Where no two functions bear one name, the function of a name is the one that bears it. -/
theorem funcNamed_of_nodup {P : Program} {name : String} {f : Nat} {l : List String} (hl : P.funcs.toList.map (·.name) = l) (hn : l.Nodup) (hf : l[f]? = some name) : P.funcNamed name = some f := by
  subst hl
  have hlen : (P.funcs.toList.map (·.name)).length = P.funcs.size := by simp
  have hlt : f < P.funcs.size := by
    have := (List.getElem?_eq_some_iff.1 hf).1
    omega
  have key : ∀ i ∈ List.range P.funcs.size, ((P.funcs[i]?).any (·.name == name)) = (i == f) := by
    intro i hi
    have hi' : i < P.funcs.size := List.mem_range.1 hi
    have e1 : (P.funcs.toList.map (·.name))[i]? = some (P.funcs[i]).name := by simp [hi']
    rw [Array.getElem?_eq_getElem hi', Option.any_some, Bool.eq_iff_iff, beq_iff_eq, beq_iff_eq]
    constructor
    · intro h
      rw [h] at e1
      exact (List.getElem?_inj (by omega) hn).1 (e1.trans hf.symm)
    · intro h
      subst h
      exact Option.some.inj (e1.symm.trans hf)
  have hfil : (List.range P.funcs.size).filter (fun i => (P.funcs[i]?).any (·.name == name)) = [f] := by
    rw [List.filter_congr key, List.filter_beq, List.nodup_range.count, if_pos (List.mem_range.2 hlt)]
    rfl
  unfold Program.funcNamed
  rw [hfil]

theorem names_are : Try.prog.funcs.toList.map (·.name) = Try.src.decls.toList.map (·.name) := by kernel_rfl
theorem parts_ok {x y : Except String Unit} (h : (x >>= fun _ => y) = .ok ()) : x = .ok () ∧ y = .ok () := by
  cases x with
  | error e => cases h
  | ok u => exact ⟨rfl, h⟩
/-- A source that is well formed bears no name twice. -/
theorem names_of_check {p : Source} (h : p.check = .ok ()) : (p.decls.toList.map (·.name)).Nodup := by
  unfold Source.check at h
  have h2 := (parts_ok (parts_ok h).2).1
  rw [Check.HeadItems.head_eq] at h2
  have h3 := (parts_ok h2).2
  unfold Check.require at h3
  split at h3
  · rename_i hd
    exact of_decide_eq_true hd
  · cases h3
theorem names_apart : (Try.src.decls.toList.map (·.name)).Nodup := names_of_check Try.checked.wellFormed

/-! ### the head of the translation, word by word: by the kernel's own letters, not by decoding the long string -/
theorem signs_of {P : Program} {cs : List Char} (h : P.initOrder = String.ofList cs) : P.initOrder.toList = cs := by rw [h, String.toList_ofList]
theorem lifts_of {P : Program} (h1 : (behindMainWord (wordsSigns P.initOrder.toList)).head? = some "cut".toList) (h2 : P.headLifts = []) : P.liftsFinal = false := by
  unfold Program.liftsFinal
  have e : (some "cut".toList == some "carried".toList) = false := by decide +kernel
  simp only [h1, h2, e]
  simp
theorem enter_of {P : Program} (ws : List (List Char)) (hb : behindMainWord (wordsSigns P.initOrder.toList) = ws) (hne : ws.head? = some "cut".toList) (hs1 : (stripLifts liftWords ws).2.head? = some "cut".toList) (hs2 : (stripLifts liftWords ws).1 = [])
    (h3 : P.laysLater = false) (h4 : P.bearsReflect = false) (h5 : P.doorFits [] = true) : P.mayEnter = true := by
  unfold Program.mayEnter
  rw [hb]
  cases ws with
  | nil => cases hne
  | cons c rest => simp [hs1, hs2, h3, h4, h5]
theorem lifts_none {P : Program} (hs1 : (stripLifts liftWords (behindMainWord (wordsSigns P.initOrder.toList))).2.head? = some "cut".toList) (hs2 : (stripLifts liftWords (behindMainWord (wordsSigns P.initOrder.toList))).1 = []) : P.headLifts = [] := by
  unfold Program.headLifts
  simp only [hs1, hs2]
  simp

theorem make_of {P : Program} (h : (behindMainWord (wordsSigns P.initOrder.toList)).head? = some "cut".toList) : P.make = some .cut := by
  unfold Program.make
  cases hb : behindMainWord (wordsSigns P.initOrder.toList) with
  | nil => rw [hb] at h; cases h
  | cons c rest =>
    rw [hb] at h
    have hc : c = "cut".toList := Option.some.inj h
    subst hc
    have e1 : ("cut".toList == "gc".toList) = false := by decide +kernel
    have e2 : ("cut".toList == "spec".toList) = false := by decide +kernel
    have e3 : ("cut".toList == "cut".toList) = true := by decide +kernel
    simp only [e1, e2, e3]
    simp

set_option maxRecDepth 100000 in
theorem word_cut : (behindMainWord (wordsSigns Try.prog.initOrder.toList)).head? = some "cut".toList := by
  rw [signs_of (P := Try.prog) rfl]
  kernel_rfl
set_option maxRecDepth 100000 in
theorem strip_cut : (stripLifts liftWords (behindMainWord (wordsSigns Try.prog.initOrder.toList))).2.head? = some "cut".toList := by
  rw [signs_of (P := Try.prog) rfl]
  kernel_rfl
set_option maxRecDepth 100000 in
theorem strip_none : (stripLifts liftWords (behindMainWord (wordsSigns Try.prog.initOrder.toList))).1 = [] := by
  rw [signs_of (P := Try.prog) rfl]
  kernel_rfl
theorem make_is : Try.prog.make = some .cut := make_of word_cut
theorem lifts_is : Try.prog.liftsFinal = false := lifts_of word_cut (lifts_none strip_cut strip_none)
theorem enter_is : Try.prog.mayEnter = true := enter_of _ rfl word_cut strip_cut strip_none (by kernel_rfl) (by kernel_rfl) (by kernel_rfl)

theorem closed : joinedFacts Try.prog 3 Try.f3 Rows.fnCreateIndexUniqueInsertsKeywordSpec Rows.fnCreateIndexUniqueInsertsKeywordRow = true := by
  unfold joinedFacts
  rw [make_is, lifts_is, enter_is]
  kernel_rfl

theorem over : Rows.fnCreateIndexUniqueInsertsKeywordRow.holds Try.pinned (OpenSpec.ofChange Rows.fnCreateIndexUniqueInsertsKeywordSpec) :=
  OpenClaim.holds_of_wide 3 Try.f3 rfl rfl rfl rfl rfl rfl rfl ⟨rfl, rfl, rfl, rfl, rfl⟩ rfl rfl rfl rfl rfl (funcNamed_of_nodup names_are names_apart rfl) Try.func3 closed
    (of_decide_eq_true (by kernel_rfl)) (by unfold Func.isWrapper; first | (rw [if_pos (by decide +kernel)]; kernel_rfl) | (rw [if_neg (by decide +kernel)]; exact ⟨rfl, rfl⟩))
    (fun os started H enc _ => lifted os started H enc)

theorem proved : Rows.FnCreateIndexUniqueInsertsKeywordSaid := over
#print axioms proved

end Go.Proofs.Qxb6604630a.fnCreateIndexUniqueInsertsKeyword
