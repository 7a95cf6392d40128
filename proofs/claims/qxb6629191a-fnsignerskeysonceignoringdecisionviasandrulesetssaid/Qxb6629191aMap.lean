/-
  Seat b6629191a: the call's own set of strings ('map[string]bool'): its members are told by look-up.
-/
import Derived.Test.Qxb6629191aBase
import Derived.Maps.Own
import Derived.Maps.OwnSet
import Derived.Maps.Views
import Derived.StringKeys
namespace Go.Proofs.Qxb6629191a
open Go.RowKit Sg
open Go.ChangeMaps
open Go.Maps (Keyed string_keyed IsMap)

theorem zero4 (w : World) : (zeroValue 4).run Try.prog w = .ok (.bool false) w := by kernel_rfl

theorem K9 : Keyed Try.prog 9 := string_keyed Try.underlying9

abbrev kl (s : ByteArray) : Lit := .string s.data.toList

/-- BLOCK b IS A MAP OF AT MOST n ENTRIES IN WHICH EACH OF S HAS true. -/
def Has (w : World) (b n : Nat) (S : List ByteArray) : Prop := ∃ D : DataW Unit, w.ownsMap Try.prog 9 (plainElem Try.prog 4) b n D ∧ ∀ s ∈ S, D.atKey (kl s) (.lit (.bool false)) = .lit (.bool true)

theorem has_made (w : World) : Has (w.alloc (.map #[] 0)) w.heap.size 0 [] := ⟨_, World.ownsMap_made w _ _ _, fun s hs => by simp at hs⟩

theorem Has.kept {w w' : World} {b n : Nat} {S : List ByteArray} (h : Has w b n S) (hb : Below w.heap.size w w') : Has w' b n S := by
  obtain ⟨D, h1, h2⟩ := h
  exact ⟨D, h1.kept (row := none) ⟨hb.os, hb.tape, hb.output, hb.size, fun k hk _ => hb.block k hk⟩ (by simp), h2⟩

theorem Has.grown {w w' : World} {b n : Nat} {S : List ByteArray} {row : Option Nat} (h : Has w b n S) (hb : w.grownBy w' row) (hr : some b ≠ row) : Has w' b n S := by
  obtain ⟨D, h1, h2⟩ := h
  exact ⟨D, h1.kept hb hr, h2⟩

theorem Has.lt {w : World} {b n : Nat} {S : List ByteArray} (h : Has w b n S) : b < w.heap.size := by
  obtain ⟨D, h1, _⟩ := h
  exact h1.lt

theorem bool_inv {v : Value} {ps : List MemPlace} (h : plainElem (H := Unit) Try.prog 4 v = some (.lit (.bool true), ps)) : v = .bool true := by
  unfold plainElem at h
  rw [Try.underlying4] at h
  cases v <;> simp at h
  rw [h.1]

theorem Has.look {w : World} {b n : Nat} {S : List ByteArray} (h : Has w b n S) {s : ByteArray} (hs : s ∈ S) (hm : s.size ≤ maxLen) : (Instr.lookup 37 (.map (some b)) (.string s) false).run Try.prog w = .ok (.bool true) w := by
  obtain ⟨D, h1, h2⟩ := h
  obtain ⟨v, ps, hr, hv⟩ := h1.lookup K9 Try.underlying37 (zero4 w) (plainElem_bool Try.underlying4 false) (Go.WideMaps.keyOf_string_mk Try.underlying9 hm)
  rw [h2 s hs] at hv
  rw [bool_inv hv] at hr
  exact hr

theorem has_put {w' : World} {b n : Nat} {S S' : List ByteArray} {s : ByteArray} {D : DataW Unit} (hD : IsMap D) (h1 : w'.ownsMap Try.prog 9 (plainElem Try.prog 4) b (n + 1) (D.put (kl s) (.lit (.bool true)))) (h2 : ∀ s ∈ S, D.atKey (kl s) (.lit (.bool false)) = .lit (.bool true)) (hS : ∀ x ∈ S', x = s ∨ x ∈ S) : Has w' b (n + 1) S' := by
  refine ⟨_, h1, fun x hx => ?_⟩
  by_cases he : kl x = kl s
  · rw [he]; exact Maps.atKey_put_same (k := kl s) hD (by exact trivial) _ _
  · rw [Maps.atKey_put_other he]
    rcases hS x hx with rfl | h
    · exact absurd rfl he
    · exact h2 x h

end Go.Proofs.Qxb6629191a
