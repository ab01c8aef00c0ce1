/-
  Seat b6604345a: a row of cells that the call itself has made, as a function of the place. No program's text: laws on any program.
-/
import Derived.Test.Qxb6604345aPlain
import Derived.WalkKit
import Derived.WalkLawsBesides
import Derived.WalkSpells
namespace Go.Proofs.Qxb6604345a
open Go.RowKit

/-- Block b of w is a row of n cells of type e, none of them frozen: cell j holds g j. -/
def Row (w : World) (b n : Nat) (e : TypeId) (g : Nat → Value) : Prop :=
  ∃ c : Array Value, w.heap[b]? = some (.cells c e (0, 0)) ∧ c.size = n ∧ ∀ j, j < n → c[j]? = some (g j)

section
variable {w w' : World} {b n : Nat} {e : TypeId} {g : Nat → Value}

theorem Row.lt (h : Row w b n e g) : b < w.heap.size := by
  obtain ⟨c, hb, _⟩ := h
  exact (Array.getElem?_eq_some_iff.1 hb).1

theorem Row.cell (h : Row w b n e g) {j : Nat} (hj : j < n) : w.cell? ⟨b, j, none⟩ = some (g j) := by
  obtain ⟨c, hb, _, hc⟩ := h
  simp [World.cell?, hb, hc j hj]

theorem Row.frozen (h : Row w b n e g) (j : Nat) : w.frozen? ⟨b, j, none⟩ = false := by
  obtain ⟨c, hb, _⟩ := h
  simp [World.frozen?, hb]

theorem Row.block (h : Row w b n e g) (hb : w'.heap[b]? = w.heap[b]?) : Row w' b n e g := by
  obtain ⟨c, h1, h2⟩ := h
  exact ⟨c, hb.trans h1, h2⟩

theorem Row.below {B : Nat} (h : Row w b n e g) (hB : Below B w w') (hb : b < B) : Row w' b n e g := h.block (hB.block b hb)

theorem Row.alloc (h : Row w b n e g) (o : Obj) : Row (w.alloc o) b n e g := h.block (Below.heap_alloc _ _ _ h.lt)

theorem Row.other (h : Row w b n e g) {a : Addr} (ha : b ≠ a.block) (v : Value) : Row (w.setCell a v) b n e g := h.block (Below.heap_setCell _ _ _ _ ha)

theorem Row.congr {g' : Nat → Value} (h : Row w b n e g) (he : ∀ j, j < n → g' j = g j) : Row w b n e g' := by
  obtain ⟨c, h1, h2, h3⟩ := h
  exact ⟨c, h1, h2, fun j hj => by rw [he j hj]; exact h3 j hj⟩

theorem Row.set (h : Row w b n e g) (k : Nat) (v : Value) : Row (w.setCell ⟨b, k, none⟩ v) b n e (fun j => if j = k then v else g j) := by
  have hlt := h.lt
  obtain ⟨c, h1, h2, h3⟩ := h
  refine ⟨c.setIfInBounds k v, ?_, by simpa using h2, fun j hj => ?_⟩
  · simp only [World.setCell, Array.getElem?_modify, h1]
    simp
  · rw [Array.getElem?_setIfInBounds]
    by_cases hjk : k = j
    · subst hjk
      simp [h2, hj]
    · have : ¬ j = k := fun e => hjk e.symm
      simp [hjk, this, h3 j hj]

theorem Row.setf {α : Type} {C : α → Value} {g : Nat → α} (h : Row w b n e (fun j => C (g j))) (k : Nat) (x : α) : Row (w.setCell ⟨b, k, none⟩ (C x)) b n e (fun j => C (upd g k x j)) :=
  (h.set k (C x)).congr fun j _ => by simp only [upd]; split <;> rfl

end

/-- 'make([]T, n)', T of one cell, n a variable: a new row of n zero values. -/
theorem wpList_make_row {P : Program} (w : World) {ops : Array Oper} {rest : List Oper} {o : Oper} {a : Act} {Q : Exit → Act → World → Prop}
    (hg : o.guard = none) (l c : Operand) (t : TypeId) (hop : o.op = Op.makeSlice t l c)
    (e : TypeId) (i : TypeInfo) (z : Value) (bytes : Nat) (h1 : P.underlying t = some (.slice e)) (h2 : P.info? e = some i) (h3 : i.zero = some z) (h4 : i.size = 1) (h5 : i.bytes = bytes) (hz : z.cells = #[z])
    (L C : Int) (n : Nat) (hl : a.eval l = .int .i64 L) (hc : a.eval c = .int .i64 C) (hL : L = (n : Int)) (hC : C = (n : Int)) (b2 : bytes * n ≤ 281474976710656) (b3 : n ≤ 9223372036854775807)
    (hK : ∀ w', Row w' w.heap.size n e (fun _ => z) → Below w.heap.size w w' → w'.heap.size = w.heap.size + 1 → wpList P ops Q rest (a.put o.dst (.slice (some ⟨w.heap.size, 0, none⟩) n n)) w') :
    wpList P ops Q (o :: rest) a w := by
  refine wpList_plain hg fun K hK' => ?_
  subst hL; subst hC; subst h5
  have hb' : (i.bytes : Int) * (n : Int) ≤ 281474976710656 := by
    have h : ((i.bytes * n : Nat) : Int) ≤ 281474976710656 := by omega
    rwa [Int.natCast_mul] at h
  have hr := run_make (P := P) w t e i z h1 h2 h3 .i64 .i64 n n (by omega) (Int.le_refl _) hb' (by omega)
  simp only [Int.toNat_natCast, h4, Nat.mul_one, hz] at hr
  unfold Oper.wp
  simp [execOp, hop, hl, hc, hr, Result.andThen]
  refine hK' _ _ (hK _ ⟨madeCells #[z] n, (MapKept.heap_alloc w _).1, size_madeCells _ _, fun j hj => ?_⟩ ((Below.refl _ _).alloc (Nat.le_refl _) _) (by simp))
  simp [madeCells, hj, Nat.mod_one]

end Go.Proofs.Qxb6604345a
