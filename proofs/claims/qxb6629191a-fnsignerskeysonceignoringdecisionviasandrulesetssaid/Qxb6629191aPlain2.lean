/-
  Seat b6629191a: the plain laws of the second statement: the keys once, the doubled proof, the members, the order.
-/
import Derived.Test.Qxb6629191aBase
import Derived.Lib.Strings
namespace Go.Proofs.Qxb6629191a.Sg
open Go.RowKit

def dbl (ks : List ByteArray) : List ByteArray := ks.flatMap fun k => if names k then [] else [k, k]

theorem step_names {X : List ByteArray} {k : ByteArray} (h : names k = true) : step X k = X := by simp [step, h]

theorem step_last {X : List ByteArray} {k : ByteArray} (h : names k = false) : (step X k).getLast? = some k := by
  unfold step
  rw [if_neg (by simp [h])]
  by_cases hl : X.getLast? = some k
  · rw [if_pos hl, hl]
  · rw [if_neg hl]; simp

theorem step_idem {X : List ByteArray} {k : ByteArray} (h : names k = false) : step (step X k) k = step X k := by
  have h1 := step_last (X := X) h
  generalize step X k = Y at *
  unfold step
  rw [if_neg (by simp [h]), if_pos h1]

theorem dbl_snoc (ks : List ByteArray) (k : ByteArray) : dbl (ks ++ [k]) = dbl ks ++ if names k then [] else [k, k] := by simp [dbl]

theorem sig_dbl (ks : List ByteArray) : sig (dbl ks) = sig ks := by
  induction ks using snoc_ind with
  | h0 => rfl
  | h1 ks k ih =>
    rw [dbl_snoc, sig_snoc]
    by_cases h : names k = true
    · rw [if_pos h, List.append_nil, step_names h, ih]
    · have h' : names k = false := by simpa using h
      rw [if_neg h, show [k, k] = [k] ++ [k] from rfl, ← List.append_assoc, sig_snoc, sig_snoc, ih, step_idem h']

theorem step_mem {X : List ByteArray} {k s : ByteArray} (h : s ∈ step X k) : s ∈ X ∨ (s = k ∧ names k = false) := by
  unfold step at h
  by_cases hn : names k = true
  · rw [if_pos hn] at h; exact .inl h
  · rw [if_neg hn] at h
    by_cases hl : X.getLast? = some k
    · rw [if_pos hl] at h; exact .inl h
    · rw [if_neg hl] at h
      rcases List.mem_append.1 h with h | h
      · exact .inl h
      · exact .inr ⟨by simpa using h, by simpa using hn⟩

theorem mem_step {X : List ByteArray} {k s : ByteArray} (h : s ∈ X ∨ (s = k ∧ names k = false)) : s ∈ step X k := by
  unfold step
  rcases h with h | ⟨rfl, hn⟩
  · split
    · exact h
    · split
      · exact h
      · exact List.mem_append_left _ h
  · rw [if_neg (by simp [hn])]
    by_cases hl : X.getLast? = some s
    · rw [if_pos hl]; exact List.mem_of_getLast? hl
    · rw [if_neg hl]; simp

theorem sig_mem {ks : List ByteArray} {s : ByteArray} : s ∈ sig ks ↔ s ∈ ks ∧ names s = false := by
  induction ks using snoc_ind with
  | h0 => simp [sig]
  | h1 ks k ih =>
    rw [sig_snoc]
    constructor
    · intro h
      rcases step_mem h with h | ⟨rfl, hn⟩
      · exact ⟨List.mem_append_left _ (ih.1 h).1, (ih.1 h).2⟩
      · exact ⟨by simp, hn⟩
    · rintro ⟨h, hn⟩
      apply mem_step
      rcases List.mem_append.1 h with h | h
      · exact .inl (ih.2 ⟨h, hn⟩)
      · have : s = k := by simpa using h
        subst this
        exact .inr ⟨rfl, hn⟩

/-- neighbours stand in the relation R -/
def Adj (R : ByteArray → ByteArray → Prop) (l : List ByteArray) : Prop := ∀ i, i + 1 < l.length → R (l[i]?.getD E0) (l[i + 1]?.getD E0)

theorem adj_snoc {R : ByteArray → ByteArray → Prop} {l : List ByteArray} {y : ByteArray} (h : Adj R l) (hl : ∀ x, l.getLast? = some x → R x y) : Adj R (l ++ [y]) := by
  intro i hi
  rw [List.length_append, List.length_singleton] at hi
  by_cases h2 : i + 1 < l.length
  · rw [List.getElem?_append_left (by omega), List.getElem?_append_left h2]
    exact h i h2
  · have e : i + 1 = l.length := by omega
    rw [List.getElem?_append_left (by omega), List.getElem?_append_right (by omega), e, Nat.sub_self]
    refine hl _ ?_
    rw [List.getLast?_eq_getElem?, show l.length - 1 = i by omega, List.getElem?_eq_getElem (by omega)]
    rfl

theorem adj_step {R : ByteArray → ByteArray → Prop} {X : List ByteArray} {k : ByteArray} (h : Adj R X) (hr : names k = false → ∀ x, X.getLast? = some x → x ≠ k → R x k) : Adj R (step X k) := by
  unfold step
  by_cases hn : names k = true
  · rw [if_pos hn]; exact h
  · rw [if_neg hn]
    by_cases hl : X.getLast? = some k
    · rw [if_pos hl]; exact h
    · rw [if_neg hl]
      exact adj_snoc h fun x hx => hr (by simpa using hn) x hx (fun e => hl (by rw [hx, e]))

theorem sig_ne (ks : List ByteArray) : Adj (· ≠ ·) (sig ks) := by
  induction ks using snoc_ind with
  | h0 => intro i hi; simp [sig] at hi
  | h1 ks k ih =>
    rw [sig_snoc]
    exact adj_step ih fun _ x _ hx => hx

def less (a b : ByteArray) : Bool := Op.bytesLess a.toList b.toList

theorem tri : ∀ x y : List UInt8, x ≠ y → Op.bytesLess y x = false → Op.bytesLess x y = true
  | [], [], h, _ => absurd rfl h
  | [], _ :: _, _, _ => rfl
  | _ :: _, [], _, h => by simp [Op.bytesLess] at h
  | a :: x, b :: y, hne, h => by
    simp only [Op.bytesLess] at h ⊢
    by_cases hab : a = b
    · subst hab
      have := tri x y (fun e => hne (by rw [e]))
      simp_all
    · have h1 : a < b ∨ b < a := by
        rcases Nat.lt_or_gt_of_ne (fun e => hab (UInt8.toNat_inj.1 e)) with h | h
        · exact .inl (UInt8.lt_iff_toNat_lt.2 h)
        · exact .inr (UInt8.lt_iff_toNat_lt.2 h)
      rcases h1 with h1 | h1 <;> simp_all

theorem less_tri {a b : ByteArray} (h : a ≠ b) (hl : less b a = false) : less a b = true := by
  refine tri _ _ (fun e => h ?_) hl
  rw [Lib.toList_data, Lib.toList_data] at e
  exact ByteArray.ext (Array.toList_inj.1 e)

/-- sorted so far, a key seen, the last key -/
def st1 (q : Bool × Bool × ByteArray) (k : ByteArray) : Bool × Bool × ByteArray := if names k then q else (q.1 && !(q.2.1 && less k q.2.2), true, k)
def st (ks : List ByteArray) : Bool × Bool × ByteArray := ks.foldl st1 (true, false, E0)

theorem st_snoc (ks : List ByteArray) (k : ByteArray) : st (ks ++ [k]) = st1 (st ks) k := by simp [st, List.foldl_append]

theorem st_take (ks : List ByteArray) (i : Nat) (h : i < ks.length) : st (ks.take (i + 1)) = st1 (st (ks.take i)) (ks[i]?.getD E0) := by
  rw [List.take_add_one, List.getElem?_eq_getElem h]
  exact st_snoc _ _

theorem st_last (ks : List ByteArray) : (sig ks).getLast? = if (st ks).2.1 then some (st ks).2.2 else none := by
  induction ks using snoc_ind with
  | h0 => simp [sig, st]
  | h1 ks k ih =>
    rw [sig_snoc, st_snoc]
    unfold st1
    by_cases hn : names k = true
    · rw [if_pos hn, step_names hn]; exact ih
    · rw [if_neg hn, step_last (by simpa using hn)]; rfl

theorem asc (ks : List ByteArray) : (st ks).1 = true → Adj (fun a b => less a b = true) (sig ks) := by
  induction ks using snoc_ind with
  | h0 => intro _ i hi; simp [sig] at hi
  | h1 ks k ih =>
    rw [sig_snoc, st_snoc]
    intro h
    by_cases hn : names k = true
    · rw [step_names hn]
      rw [st1, if_pos hn] at h
      exact ih h
    · rw [st1, if_neg hn] at h
      simp only [Bool.and_eq_true] at h
      refine adj_step (ih h.1) fun _ x hx hne => ?_
      rw [st_last] at hx
      by_cases hs : (st ks).2.1 = true
      · rw [if_pos hs] at hx
        have e : (st ks).2.2 = x := by simpa using hx
        have h2 := h.2
        rw [hs, e] at h2
        exact less_tri hne (by simpa using h2)
      · rw [if_neg hs] at hx
        cases hx

end Go.Proofs.Qxb6629191a.Sg
