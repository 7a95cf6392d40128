/-
  THE PLAIN LAWS of seat b6629160aF: JSON white space, the first place at or behind p that holds none, and what becomes of it when white space is put in at p. No Go in sight.
-/
namespace Go.Proofs.Qxb6629160aFmt.Js

/-- the four bytes that JSON calls white space -/
def isSp (c : Int) : Bool := c == 32 || (c == 9 || (c == 10 || c == 13))
/-- each is a byte -/
def Bytes (zs : List Int) : Prop := ∀ x ∈ zs, 0 ≤ x ∧ x ≤ 255

theorem isSp_true {c : Int} (h : isSp c = true) : c = 32 ∨ c = 9 ∨ c = 10 ∨ c = 13 := by
  simpa [isSp] using h
theorem isSp_false {c : Int} (h : isSp c = false) : c ≠ 32 ∧ c ≠ 9 ∧ c ≠ 10 ∧ c ≠ 13 := by
  simpa [isSp] using h

theorem bytes_at {zs : List Int} (hz : Bytes zs) (j : Nat) : 0 ≤ zs[j]?.getD 0 ∧ zs[j]?.getD 0 ≤ 255 := by
  by_cases hj : j < zs.length
  · rw [List.getElem?_eq_getElem hj]; exact hz _ (List.getElem_mem hj)
  · rw [List.getElem?_eq_none (by omega)]; simp

/-- j is the first place at or behind p that is the end or holds no white space -/
structure NextIs (zs : List Int) (p j : Nat) : Prop where
  ge : p ≤ j
  le : j ≤ zs.length
  blank : ∀ i, p ≤ i → i < j → isSp (zs[i]?.getD 0) = true
  stop : j < zs.length → isSp (zs[j]?.getD 0) = false

theorem next_exists (zs : List Int) : ∀ (n p : Nat), zs.length = p + n → ∃ j, NextIs zs p j
  | 0, p, h => ⟨p, Nat.le_refl _, by omega, fun i h1 h2 => by omega, fun h' => by omega⟩
  | n + 1, p, h => by
    cases hs : isSp (zs[p]?.getD 0) with
    | false => exact ⟨p, Nat.le_refl _, by omega, fun i h1 h2 => by omega, fun _ => hs⟩
    | true =>
      obtain ⟨j, hj⟩ := next_exists zs n (p + 1) (by omega)
      refine ⟨j, by have := hj.ge; omega, hj.le, fun i h1 h2 => ?_, hj.stop⟩
      by_cases he : i = p
      · rw [he]; exact hs
      · exact hj.blank i (by omega) h2

theorem next_of (zs : List Int) (p : Nat) (h : p ≤ zs.length) : ∃ j, NextIs zs p j := next_exists zs (zs.length - p) p (by omega)

/-- the text with ws put in at p -/
def joined (zs : List Int) (p : Nat) (ws : List Int) : List Int := zs.take p ++ (ws ++ zs.drop p)

theorem joined_len (zs : List Int) (p : Nat) (ws : List Int) (h : p ≤ zs.length) : (joined zs p ws).length = zs.length + ws.length := by
  simp [joined]; omega

theorem joined_mid (zs : List Int) (p : Nat) (ws : List Int) (h : p ≤ zs.length) (i : Nat) (h1 : p ≤ i) (h2 : i < p + ws.length) : (joined zs p ws)[i]?.getD 0 = ws[i - p]?.getD 0 := by
  have hl : (zs.take p).length = p := by simp; omega
  rw [joined, List.getElem?_append_right (by omega), hl, List.getElem?_append_left (by omega)]

theorem joined_past (zs : List Int) (p : Nat) (ws : List Int) (h : p ≤ zs.length) (i : Nat) (h1 : p ≤ i) : (joined zs p ws)[i + ws.length]?.getD 0 = zs[i]?.getD 0 := by
  have hl : (zs.take p).length = p := by simp; omega
  rw [joined, List.getElem?_append_right (by omega), hl, List.getElem?_append_right (by omega), List.getElem?_drop]
  congr 2
  omega

theorem joined_next {zs : List Int} {p j : Nat} {ws : List Int} (h : NextIs zs p j) (hp : p ≤ zs.length) (hw : ∀ i, i < ws.length → isSp (ws[i]?.getD 0) = true) : NextIs (joined zs p ws) p (j + ws.length) := by
  refine ⟨by have := h.ge; omega, by rw [joined_len zs p ws hp]; have := h.le; omega, fun i h1 h2 => ?_, fun h1 => ?_⟩
  · by_cases hi : i < p + ws.length
    · rw [joined_mid zs p ws hp i h1 hi]
      exact hw _ (by omega)
    · have e : i = (i - ws.length) + ws.length := by omega
      rw [e, joined_past zs p ws hp _ (by omega)]
      exact h.blank _ (by omega) (by omega)
  · rw [joined_past zs p ws hp j h.ge]
    rw [joined_len zs p ws hp] at h1
    exact h.stop (by omega)

theorem bytes_joined {zs ws : List Int} {p : Nat} (hz : Bytes zs) (hw : Bytes ws) : Bytes (joined zs p ws) := by
  intro x hx
  simp only [joined, List.mem_append] at hx
  rcases hx with h | h | h
  · exact hz x (List.mem_of_mem_take h)
  · exact hw x h
  · exact hz x (List.mem_of_mem_drop h)

theorem eq_of_all {a b : List Int} (hl : a.length = b.length) (h : ∀ i, i < a.length → a[i]?.getD 0 = b[i]?.getD 0) : a = b := by
  apply List.ext_getElem hl
  intro i h1 h2
  have := h i h1
  rw [List.getElem?_eq_getElem h1, List.getElem?_eq_getElem h2] at this
  simpa using this

end Go.Proofs.Qxb6629160aFmt.Js
