/-
  THE PLAIN LAWS of seat b6629191a: what 'Signers' gives for a list of keys, at a cut and with a step put in; keys doubled; members; neighbours; order. No Go in sight.
-/
namespace Go.Proofs.Qxb6629191a.Sg

/-- does the string name a rule set? (it begins with the five bytes of 'darc' and a colon) -/
def names (s : ByteArray) : Bool := decide (5 ≤ s.size) && ((s.extract 0 5).toList == [100, 97, 114, 99, 58])

/-- one step of Signers: the key is put at the end unless it names a rule set or stands there already -/
def step (out : List ByteArray) (k : ByteArray) : List ByteArray := if names k then out else if out.getLast? = some k then out else out ++ [k]

/-- what Signers gives -/
def sig (ks : List ByteArray) : List ByteArray := ks.foldl step []

/-- two lists joined, a repeat at the seam dropped -/
def seam (a b : List ByteArray) : List ByteArray := a ++ (if a.getLast? = b.head? then b.tail else b)

theorem snoc_ind {α : Type} {P : List α → Prop} (h0 : P []) (h1 : ∀ l x, P l → P (l ++ [x])) (l : List α) : P l := by
  have h : ∀ r : List α, P r.reverse := by
    intro r
    induction r with
    | nil => exact h0
    | cons x r ih => rw [List.reverse_cons]; exact h1 _ _ ih
  have := h l.reverse
  rwa [List.reverse_reverse] at this

theorem sig_snoc (ks : List ByteArray) (k : ByteArray) : sig (ks ++ [k]) = step (sig ks) k := by simp [sig, List.foldl_append]

theorem sig_take (ks : List ByteArray) (i : Nat) (d : ByteArray) (h : i < ks.length) : sig (ks.take (i + 1)) = step (sig (ks.take i)) (ks[i]?.getD d) := by
  rw [List.take_add_one, List.getElem?_eq_getElem h]
  exact sig_snoc _ _

theorem seam_eq {a b : List ByteArray} (h : a.getLast? = b.head?) : seam a b = a ++ b.tail := by rw [seam, if_pos h]
theorem seam_ne {a b : List ByteArray} (h : ¬ a.getLast? = b.head?) : seam a b = a ++ b := by rw [seam, if_neg h]

theorem seam_nil (a : List ByteArray) : seam a [] = a := by
  by_cases h : a.getLast? = ([] : List ByteArray).head?
  · rw [seam_eq h]; simp
  · rw [seam_ne h]; simp

theorem nil_seam (b : List ByteArray) : seam [] b = b := by
  by_cases h : ([] : List ByteArray).getLast? = b.head?
  · rw [seam_eq h]
    cases b with
    | nil => rfl
    | cons x r => simp at h
  · rw [seam_ne h]; rfl

theorem last_app (a b : List ByteArray) (hb : b ≠ []) : (a ++ b).getLast? = b.getLast? := by
  rw [List.getLast?_append]
  cases hl : b.getLast? with
  | none => exact absurd (List.getLast?_eq_none_iff.1 hl) hb
  | some x => rfl

/-- what stands last behind a seam -/
theorem seam_last (a b : List ByteArray) (hb : b ≠ []) : (seam a b).getLast? = b.getLast? := by
  obtain ⟨h, t, rfl⟩ : ∃ h t, b = h :: t := by cases b with
    | nil => exact absurd rfl hb
    | cons h t => exact ⟨h, t, rfl⟩
  by_cases he : a.getLast? = (h :: t).head?
  · rw [seam_eq he]
    cases t with
    | nil => simpa using he
    | cons x r => rw [List.tail_cons, last_app _ _ (by simp)]; simp
  · rw [seam_ne he, last_app _ _ (by simp)]

theorem seam_snoc (a b : List ByteArray) (y : ByteArray) (hb : b ≠ []) : seam a (b ++ [y]) = seam a b ++ [y] := by
  obtain ⟨h, t, rfl⟩ : ∃ h t, b = h :: t := by cases b with
    | nil => exact absurd rfl hb
    | cons h t => exact ⟨h, t, rfl⟩
  by_cases h1 : a.getLast? = some h
  · rw [seam_eq (b := h :: t) h1, seam_eq (b := h :: t ++ [y]) h1]
    simp
  · rw [seam_ne (b := h :: t) h1, seam_ne (b := h :: t ++ [y]) h1]
    simp

theorem step_seam (a b : List ByteArray) (y : ByteArray) : step (seam a b) y = seam a (step b y) := by
  unfold step
  by_cases hn : names y = true
  · simp [hn]
  · simp only [hn, Bool.false_eq_true, if_false]
    by_cases hb : b = []
    · subst hb
      rw [seam_nil]
      simp only [List.getLast?_nil, reduceCtorEq, if_false, List.nil_append]
      by_cases h1 : a.getLast? = some y
      · rw [if_pos h1, seam_eq (b := [y]) h1]; simp
      · rw [if_neg h1, seam_ne (b := [y]) h1]
    · rw [seam_last a b hb]
      split
      · rfl
      · rw [seam_snoc a b y hb]

theorem sig_append (xs ys : List ByteArray) : sig (xs ++ ys) = seam (sig xs) (sig ys) := by
  refine snoc_ind (P := fun ys => sig (xs ++ ys) = seam (sig xs) (sig ys)) ?_ ?_ ys
  · show sig (xs ++ []) = seam (sig xs) (sig [])
    rw [List.append_nil]; exact (seam_nil _).symm
  · intro ys y ih
    show sig (xs ++ (ys ++ [y])) = _
    rw [← List.append_assoc, sig_snoc, sig_snoc, ih, step_seam]

/-- the signers of one step -/
theorem sig_one (k : ByteArray) : sig [k] = if names k then [] else [k] := by simp [sig, step]

theorem sig_insert (xs ys : List ByteArray) (k : ByteArray) : sig (xs ++ ([k] ++ ys)) = seam (seam (sig xs) (sig [k])) (sig ys) := by
  rw [← List.append_assoc, sig_append, sig_append]

theorem sig_len (ks : List ByteArray) : (sig ks).length ≤ ks.length := by
  refine snoc_ind (P := fun ks => (sig ks).length ≤ ks.length) (by simp [sig]) ?_ ks
  intro ks k ih
  show (sig (ks ++ [k])).length ≤ _
  rw [sig_snoc]
  unfold step
  split
  · simp; omega
  · split <;> simp <;> omega

end Go.Proofs.Qxb6629191a.Sg
