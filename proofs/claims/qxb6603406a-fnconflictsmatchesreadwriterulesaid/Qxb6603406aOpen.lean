/-
  Seat b6603406a: a list of strings that came in, opened for the walks.
-/
import Derived.Test.Qxb6603406aBase
import Derived.SliceStrings
import Derived.ChangeOld
import Derived.Below
import Derived.HeadItems
namespace Go.Proofs.Qxb6603406a
open Go.ChangeShapes Go.WideShapes Go.ChangeAt Go.RowKit

theorem own : ownKnob Try.prog.godebug = none := by kernel_rfl
theorem laidOut : laidOutB Try.prog = true := by kernel_rfl

/-- What the walks are told of a list of strings that came in. -/
theorem open_list {H : Type} {enc : TypeId × Value → H} {W : World} {a : Option Addr} {len cap : Nat} {d : DataW H} {p : List MemPlace}
    (h : DataW.Trod enc Try.prog W 0 (fun _ => true) true 22 (.slice a len cap) d p) (lt : ∀ x ∈ p, x.block < W.heap.size) :
    ∃ f, Strs W a len f ∧ len ≤ maxLen ∧ (a = none → len = 0 ∧ cap = 0) := by
  obtain ⟨fuel, hf⟩ := h
  rcases open_strings Try.underlying22 Try.underlying9 (by kernel_rfl) hf with ⟨hcs, _⟩ | ⟨x, l, c, ss, hcs, _, hl, hm, hz, hx, hcell, hsz⟩
  · simp [Value.cells] at hcs
    obtain ⟨rfl, rfl, rfl⟩ := hcs
    exact ⟨fun _ => ByteArray.empty, .inl rfl, Nat.zero_le _, fun _ => ⟨rfl, rfl⟩⟩
  · simp [Value.cells] at hcs
    obtain ⟨rfl, rfl, rfl⟩ := hcs
    simp only [if_true] at hz
    simp only [Prod.mk.injEq] at hx
    refine ⟨fun j => ss.getD j ByteArray.empty, ?_, Nat.le_trans hl hm, fun h => by cases h⟩
    by_cases h0 : len = 0
    · exact .inl h0
    · obtain ⟨b, off, spot⟩ := x
      have hspot : spot = none := by simpa [Addr.add] using World.cell?_spot (hcell 0 (by omega))
      subst hspot
      refine .inr ⟨b, off, rfl, ?_, fun j hj => ?_, fun j hj => ?_⟩
      · exact lt (.cell b off) (by rw [hx.2]; exact MemPlace.mem_row.2 ⟨0, by omega, rfl⟩)
      · rw [← add_plain]; exact hcell j (by omega)
      · have hj' : j < ss.length := by omega
        show (ss.getD j ByteArray.empty).size ≤ maxLen
        rw [List.getD, List.getElem?_eq_getElem hj']
        exact hsz _ (List.getElem_mem hj')

/-- Where no two functions bear one name, the function of a name is the one that bears it. -/
theorem funcNamed_of_nodup {P : Program} {name : String} {f : Nat} {l : List String} (hl : P.funcs.toList.map (·.name) = l) (hn : l.Nodup) (hf : l[f]? = some name) : P.funcNamed name = some f := by
  subst hl
  have hlen : (P.funcs.toList.map (·.name)).length = P.funcs.size := by simp
  have hlt : f < P.funcs.size := by
    have := (List.getElem?_eq_some_iff.1 hf).1
    omega
  have key : ∀ i ∈ List.range P.funcs.size, ((P.funcs[i]?).any (·.name == name)) = (i == f) := by
    intro i hi
    have hi' : i < P.funcs.size := List.mem_range.1 hi
    have e1 : (P.funcs.toList.map (·.name))[i]? = some (P.funcs[i]).name := by simp [hi']
    rw [Array.getElem?_eq_getElem hi', Option.any_some, Bool.eq_iff_iff, beq_iff_eq, beq_iff_eq]
    constructor
    · intro h
      rw [h] at e1
      exact (List.getElem?_inj (by omega) hn).1 (e1.trans hf.symm)
    · intro h
      subst h
      exact Option.some.inj (e1.symm.trans hf)
  have hfil : (List.range P.funcs.size).filter (fun i => (P.funcs[i]?).any (·.name == name)) = [f] := by
    rw [List.filter_congr key, List.filter_beq, List.nodup_range.count, if_pos (List.mem_range.2 hlt)]
    rfl
  unfold Program.funcNamed
  rw [hfil]

theorem names_are : Try.prog.funcs.toList.map (·.name) = Try.src.decls.toList.map (·.name) := by kernel_rfl
theorem parts_ok {x y : Except String Unit} (h : (x >>= fun _ => y) = .ok ()) : x = .ok () ∧ y = .ok () := by
  cases x with
  | error e => cases h
  | ok u => exact ⟨rfl, h⟩
/-- A source that is well formed bears no name twice. -/
theorem names_of_check {p : Source} (h : p.check = .ok ()) : (p.decls.toList.map (·.name)).Nodup := by
  unfold Source.check at h
  have h2 := (parts_ok (parts_ok h).2).1
  rw [Check.HeadItems.head_eq] at h2
  have h3 := (parts_ok h2).2
  unfold Check.require at h3
  split at h3
  · rename_i hd
    exact of_decide_eq_true hd
  · cases h3
theorem names_apart : (Try.src.decls.toList.map (·.name)).Nodup := names_of_check Try.checked.wellFormed

/-! ### the head of the translation, word by word: by the kernel's own letters, not by decoding the long string -/
theorem signs_of {P : Program} {cs : List Char} (h : P.initOrder = String.ofList cs) : P.initOrder.toList = cs := by rw [h, String.toList_ofList]
theorem lifts_of {P : Program} (h1 : (behindMainWord (wordsSigns P.initOrder.toList)).head? = some "cut".toList) (h2 : P.headLifts = []) : P.liftsFinal = false := by
  unfold Program.liftsFinal
  have e : (some "cut".toList == some "carried".toList) = false := by decide +kernel
  simp only [h1, h2, e]
  simp
theorem enter_of {P : Program} (ws : List (List Char)) (hb : behindMainWord (wordsSigns P.initOrder.toList) = ws) (hne : ws.head? = some "cut".toList) (hs1 : (stripLifts liftWords ws).2.head? = some "cut".toList) (hs2 : (stripLifts liftWords ws).1 = [])
    (h3 : P.laysLater = false) (h4 : P.bearsReflect = false) (h5 : P.doorFits [] = true) : P.mayEnter = true := by
  unfold Program.mayEnter
  rw [hb]
  cases ws with
  | nil => cases hne
  | cons c rest => simp [hs1, hs2, h3, h4, h5]
theorem lifts_none {P : Program} (hs1 : (stripLifts liftWords (behindMainWord (wordsSigns P.initOrder.toList))).2.head? = some "cut".toList) (hs2 : (stripLifts liftWords (behindMainWord (wordsSigns P.initOrder.toList))).1 = []) : P.headLifts = [] := by
  unfold Program.headLifts
  simp only [hs1, hs2]
  simp

theorem make_of {P : Program} (h : (behindMainWord (wordsSigns P.initOrder.toList)).head? = some "cut".toList) : P.make = some .cut := by
  unfold Program.make
  cases hb : behindMainWord (wordsSigns P.initOrder.toList) with
  | nil => rw [hb] at h; cases h
  | cons c rest =>
    rw [hb] at h
    have hc : c = "cut".toList := Option.some.inj h
    subst hc
    have e1 : ("cut".toList == "gc".toList) = false := by decide +kernel
    have e2 : ("cut".toList == "spec".toList) = false := by decide +kernel
    have e3 : ("cut".toList == "cut".toList) = true := by decide +kernel
    simp only [e1, e2, e3]
    simp

set_option maxRecDepth 100000 in
theorem word_cut : (behindMainWord (wordsSigns Try.prog.initOrder.toList)).head? = some "cut".toList := by
  rw [signs_of (P := Try.prog) rfl]
  kernel_rfl
set_option maxRecDepth 100000 in
theorem strip_cut : (stripLifts liftWords (behindMainWord (wordsSigns Try.prog.initOrder.toList))).2.head? = some "cut".toList := by
  rw [signs_of (P := Try.prog) rfl]
  kernel_rfl
set_option maxRecDepth 100000 in
theorem strip_none : (stripLifts liftWords (behindMainWord (wordsSigns Try.prog.initOrder.toList))).1 = [] := by
  rw [signs_of (P := Try.prog) rfl]
  kernel_rfl
theorem make_is : Try.prog.make = some .cut := make_of word_cut
theorem lifts_is : Try.prog.liftsFinal = false := lifts_of word_cut (lifts_none strip_cut strip_none)
theorem enter_is : Try.prog.mayEnter = true := enter_of _ rfl word_cut strip_cut strip_none (by kernel_rfl) (by kernel_rfl) (by kernel_rfl)

end Go.Proofs.Qxb6603406a
