/-
  Seat b6629191a: the handed-in slice of steps, opened for the walks.
-/
import Derived.Test.Qxb6629191aBase
import Derived.Deep.SlicePairs
import Derived.ChangeArms
namespace Go.Proofs.Qxb6629191a
open Go.RowKit Sg Go.ChangeShapes Go.WideShapes

theorem Try.cells38 : Try.prog.cellsOf 38 = 2 := by kernel_rfl
theorem Try.cells9 : Try.prog.cellsOf 9 = 1 := by kernel_rfl

def strOf : Value → ByteArray
  | .string s => s
  | _ => E0

theorem str_at (V : Nat → Value) (len i : Nat) (h : i < len) : ((List.range len).map fun i => strOf (V i))[i]?.getD E0 = strOf (V i) := by simp [h]

theorem open_steps {H : Type} {enc : TypeId × Value → H} {W : World} {base : Nat} {spare : Nat → Bool} {held : Bool} {fuel : Nat} {a : Option Addr} {len cap : Nat} {x : DataW H × List MemPlace}
    (h : DataW.trod enc Try.prog W base spare held fuel 22 [.slice a len cap] = some x) :
    ∃ ks vs, Pr W W.heap.size a len cap ks vs ∧ (∀ i, i < len → (ks[i]?.getD E0).size ≤ maxLen) ∧ ∀ i, i < len → (vs[i]?.getD E0).size ≤ maxLen := by
  rcases Go.Deep.open_slice_pairs Try.underlying22 Try.underlying38 Try.cells38 rfl rfl Try.cells9 Try.cells9 h with ⟨hcs, _⟩ | ⟨x, l, c, m, n, V0, V1, D0, D1, P0, P1, hcs, _, hl, _, hm, _, hx⟩
  · simp only [List.cons.injEq, Value.slice.injEq, and_true] at hcs
    obtain ⟨rfl, rfl, rfl⟩ := hcs
    exact ⟨[], [], ⟨rfl, rfl, Nat.le_refl _, fun _ => rfl, fun h => absurd h (Nat.lt_irrefl _)⟩, fun i hi => absurd hi (Nat.not_lt_zero _), fun i hi => absurd hi (Nat.not_lt_zero _)⟩
  · simp only [List.cons.injEq, Value.slice.injEq, and_true] at hcs
    obtain ⟨rfl, rfl, rfl⟩ := hcs
    have hlm : len ≤ m := by rw [hm]; split <;> omega
    have e0 : ∀ i, i < len → V0 i = .string (strOf (V0 i)) ∧ (strOf (V0 i)).size ≤ maxLen := by
      intro i hi
      obtain ⟨s, hs, _, hz⟩ := DataW.trod_string Try.underlying9 (hx i (by omega)).2.2.1
      simp only [List.cons.injEq, and_true] at hs
      rw [hs]
      exact ⟨rfl, hz⟩
    have e1 : ∀ i, i < len → V1 i = .string (strOf (V1 i)) ∧ (strOf (V1 i)).size ≤ maxLen := by
      intro i hi
      obtain ⟨s, hs, _, hz⟩ := DataW.trod_string Try.underlying9 (hx i (by omega)).2.2.2
      simp only [List.cons.injEq, and_true] at hs
      rw [hs]
      exact ⟨rfl, hz⟩
    refine ⟨(List.range len).map fun i => strOf (V0 i), (List.range len).map fun i => strOf (V1 i), ⟨by simp, by simp, hl, fun h => (by cases h), fun h0 => ?_⟩, fun i hi => ?_, fun i hi => ?_⟩
    · obtain ⟨b, off, spot⟩ := x
      have h00 := (hx 0 (by omega)).1
      have hspot : spot = none := by simpa [Addr.add] using World.cell?_spot h00
      subst hspot
      refine ⟨b, off, rfl, ?_, fun i hi => ?_⟩
      · have := World.block_lt_of_cell? W _ h00
        simpa [Addr.add_lit] using this
      · rw [str_at V0 len i hi, str_at V1 len i hi]
        have q := hx i (by omega)
        rw [Addr.add_lit, Addr.add_lit] at q
        refine ⟨q.1.trans (congrArg some (e0 i hi).1), ?_⟩
        rw [Nat.add_assoc]
        exact q.2.1.trans (congrArg some (e1 i hi).1)
    · rw [str_at V0 len i hi]; exact (e0 i hi).2
    · rw [str_at V1 len i hi]; exact (e1 i hi).2

end Go.Proofs.Qxb6629191a
