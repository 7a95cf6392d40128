/-
  Seat b6629115a: what 'Bound.String' prints, and the contracts of the small functions.
-/
import Derived.Test.Qxb6629115aRows
import Derived.WalkKit
import Derived.WalkSpells
import Derived.WalkLawsBesides
import Derived.Lib.Strings
namespace Go.Proofs.Qxb6629115a
open Go.RowKit

/-- what stands ahead of the value -/
def pre (rel : Int) (low : ByteArray) : ByteArray :=
  if rel = 1 then ⟨#[60, 61, 32]⟩ else if rel = 2 then ⟨#[62, 61, 32]⟩ else if rel = 3 then ⟨#[105, 110, 32]⟩ ++ low ++ ⟨#[45]⟩ else if rel = 4 then ⟨#[119, 104, 101, 110, 32, 62, 32]⟩ else ⟨#[63, 32]⟩

theorem pre_size (rel : Int) (low : ByteArray) : 1 ≤ (pre rel low).size ∧ (pre rel low).size ≤ low.size + 7 := by
  have e1 : (⟨#[60, 61, 32]⟩ : ByteArray).size = 3 := rfl
  have e2 : (⟨#[62, 61, 32]⟩ : ByteArray).size = 3 := rfl
  have e3 : (⟨#[105, 110, 32]⟩ : ByteArray).size = 3 := rfl
  have e4 : (⟨#[45]⟩ : ByteArray).size = 1 := rfl
  have e5 : (⟨#[119, 104, 101, 110, 32, 62, 32]⟩ : ByteArray).size = 7 := rfl
  have e6 : (⟨#[63, 32]⟩ : ByteArray).size = 2 := rfl
  unfold pre
  split
  · rw [e1]; omega
  split
  · rw [e2]; omega
  split
  · rw [ByteArray.size_append, ByteArray.size_append, e3, e4]; omega
  split
  · rw [e5]; omega
  · rw [e6]; omega

theorem pre_other (rel : Int) (low low' : ByteArray) (h : rel ≠ 3) : pre rel low = pre rel low' := by
  unfold pre
  rw [if_neg h, if_neg h]

/-- the code that is read back -/
def codeOf (rel : Int) : Int := if 1 ≤ rel ∧ rel ≤ 4 then rel else 0

theorem first_of (a b : ByteArray) (h : 0 < a.size) (h' : 0 < (a ++ b).size) : (a ++ b)[0]'h' = a[0]'h := by
  rw [ByteArray.getElem_append_left h]

set_option maxHeartbeats 400000 in
theorem str_any (rel : Int) (low value unit base subject S : ByteArray) (w : World) (h1 : low.size ≤ 200000) (h2 : value.size ≤ 200000) (h3 : unit.size ≤ 200000) (HS : Hid (S = pre rel low ++ (value ++ unit))) :
    Calls Try.prog 6 #[.agg #[.int .i64 rel, .string low, .string value, .string unit, .string base, .string subject]] w fun e w' =>
      e = .returned (.string S) ∧ w' = w.alloc (.cells #[.int .i64 rel, .string low, .string value, .string unit, .string base, .string subject] 26) := by
  rw [HS.out]
  clear HS
  by_cases g1 : rel = 1
  · subst g1
    go_enter Try.func6, Try.ntmps6
    go_wp2
    go_ret
    exact ⟨rfl, rfl⟩
  by_cases g2 : rel = 2
  · subst g2
    go_enter Try.func6, Try.ntmps6
    go_wp2
    go_ret
    exact ⟨rfl, rfl⟩
  by_cases g3 : rel = 3
  · subst g3
    go_enter Try.func6, Try.ntmps6
    go_wp2
    go_ret
    exact ⟨rfl, rfl⟩
  by_cases g4 : rel = 4
  · subst g4
    go_enter Try.func6, Try.ntmps6
    go_wp2
    go_ret
    exact ⟨rfl, rfl⟩
  · have e : pre rel low = ⟨#[63, 32]⟩ := by unfold pre; rw [if_neg g1, if_neg g2, if_neg g3, if_neg g4]
    rw [e]
    have k1 : (rel == 1) = false := by simpa using g1
    have k2 : (rel == 2) = false := by simpa using g2
    have k3 : (rel == 3) = false := by simpa using g3
    have k4 : (rel == 4) = false := by simpa using g4
    clear e g1 g2 g3 g4
    go_enter Try.func6, Try.ntmps6
    go_wp2
    go_ret
    exact ⟨rfl, rfl⟩

theorem data_app (a b : ByteArray) : (a ++ b).data.toList = a.data.toList ++ b.data.toList := by simp

theorem ends_law (p t : ByteArray) : (((p ++ t).extract ((p ++ t).size - t.size) (p ++ t).size).toList == t.toList) = true := by
  rw [beq_iff_eq, Lib.extract_toList]
  simp only [ByteArray.size_append, Nat.add_sub_cancel]
  rw [Lib.toList_data, data_app, List.drop_left' (Lib.size_eq p).symm]
  exact List.take_of_length_le (by rw [← Lib.size_eq]; omega)

set_option maxHeartbeats 400000 in
theorem ends_yes (S T : ByteArray) (w : World) (h1 : S.size ≤ 900000) (HS : Hid (∃ p, S = p ++ T)) :
    Calls Try.prog 7 #[.string S, .string T] w fun e w' => e = .returned (.bool true) ∧ w = w' := by
  obtain ⟨p, hp⟩ := HS.out
  have hl := ends_law p T
  rw [← hp] at hl
  have hs : T.size ≤ S.size := by rw [hp, ByteArray.size_append]; omega
  clear hp HS
  go_enter Try.func7, Try.ntmps7
  go_wp2
  go_ret
  exact ⟨rfl, rfl⟩

set_option maxHeartbeats 400000 in
theorem read_byte (S : ByteArray) (c : Nat) (r : Int) (w : World) (h0 : 0 < S.size) (hm : S.size ≤ 900000) (hc : (S[0]'h0).toNat = c) (hr : (c = 60 ∧ r = 1) ∨ (c = 62 ∧ r = 2) ∨ (c = 105 ∧ r = 3) ∨ (c = 119 ∧ r = 4) ∨ (c = 63 ∧ r = 0)) :
    Calls Try.prog 9 #[.string S] w fun e w' => e = .returned (.int .i64 r) ∧ w = w' := by
  have h00 : ((S.size : Int) == 0) = false := beq_eq_false_iff_ne.2 (by omega)
  rcases hr with ⟨rfl, rfl⟩ | ⟨rfl, rfl⟩ | ⟨rfl, rfl⟩ | ⟨rfl, rfl⟩ | ⟨rfl, rfl⟩
  all_goals
    go_enter Try.func9, Try.ntmps9
    go_wp2
    go_ret
    exact ⟨rfl, rfl⟩

theorem read_any (rel : Int) (low v S : ByteArray) (w : World) (hm : S.size ≤ 900000) (HS : Hid (S = pre rel low ++ v)) :
    Calls Try.prog 9 #[.string S] w fun e w' => e = .returned (.int .i64 (codeOf rel)) ∧ w = w' := by
  have hp := pre_size rel low
  have h0 : 0 < S.size := by rw [HS.out, ByteArray.size_append]; omega
  have hf : S[0]'h0 = (pre rel low)[0]'(by omega) := by
    have e := HS.out
    subst e
    exact first_of _ _ (by omega) h0
  refine read_byte S _ _ w h0 hm (by rw [hf]) ?_
  by_cases g1 : rel = 1
  · subst g1; left; exact ⟨rfl, rfl⟩
  by_cases g2 : rel = 2
  · subst g2; right; left; exact ⟨rfl, rfl⟩
  by_cases g3 : rel = 3
  · subst g3
    right; right; left
    refine ⟨?_, rfl⟩
    have e : pre 3 low = ⟨#[105, 110, 32]⟩ ++ (low ++ ⟨#[45]⟩) := by rw [← ByteArray.append_assoc]; rfl
    have : ∀ (X : ByteArray) (_ : X = ⟨#[105, 110, 32]⟩ ++ (low ++ ⟨#[45]⟩)) (h : 0 < X.size), (X[0]'h).toNat = 105 := by
      rintro X rfl h
      rw [first_of _ _ (by decide) h]
      rfl
    exact this _ e _
  by_cases g4 : rel = 4
  · subst g4; right; right; right; left; exact ⟨rfl, rfl⟩
  · right; right; right; right
    have e : pre rel low = ⟨#[63, 32]⟩ := by unfold pre; rw [if_neg g1, if_neg g2, if_neg g3, if_neg g4]
    refine ⟨?_, by unfold codeOf; rw [if_neg (by omega)]⟩
    have : ∀ (X : ByteArray) (_ : X = ⟨#[63, 32]⟩) (h : 0 < X.size), (X[0]'h).toNat = 63 := by
      rintro X rfl h
      rfl
    exact this _ e _

end Go.Proofs.Qxb6629115a
