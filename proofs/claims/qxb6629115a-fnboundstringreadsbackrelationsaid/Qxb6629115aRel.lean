/-
  Seat b6629115a: the walk of 'FnBoundStringReadsBackRelation'.
-/
import Derived.Test.Qxb6629115aBase
namespace Go.Proofs.Qxb6629115a
open Go.RowKit

set_option maxHeartbeats 1000000 in
theorem bytes_rel (r : Int) (a1 a2 a3 a4 a5 : ByteArray) (w : World) (h1 : a1.size ≤ maxLen) (h2 : a2.size ≤ maxLen) (h3 : a3.size ≤ maxLen) (h4 : a4.size ≤ maxLen) (h5 : a5.size ≤ maxLen) :
    Calls Try.prog 8 #[.int .i64 r, .string a1, .string a2, .string a3, .string a4, .string a5] w fun e w' => ∃ r : Bool, e = .returned (.bool r) ∧ w = w' := by
  unfold maxLen at h1 h2 h3 h4 h5
  go_enter Try.func8, Try.ntmps8
  go_wp2
  all_goals
    go_ret
    exact ⟨_, rfl, rfl⟩

theorem rel_parts (rel : Int) : rel = 3 ∨ (rel ≠ 3 ∧ (1 ≤ rel ∧ rel ≤ 4) ∧ Hid (codeOf rel = rel)) ∨ (rel ≠ 3 ∧ rel < 1 ∧ Hid (codeOf rel = 0)) ∨ (rel ≠ 3 ∧ 4 < rel ∧ Hid (codeOf rel = 0)) := by
  by_cases h3 : rel = 3
  · exact .inl h3
  by_cases h : 1 ≤ rel ∧ rel ≤ 4
  · exact .inr (.inl ⟨h3, h, if_pos h⟩)
  by_cases h1 : rel < 1
  · exact .inr (.inr (.inl ⟨h3, h1, if_neg h⟩))
  · exact .inr (.inr (.inr ⟨h3, by omega, if_neg h⟩))

set_option maxHeartbeats 4000000 in
set_option maxRecDepth 100000 in
theorem rel_walk (rel : Int) (low value unit base subject : ByteArray) (w : World) (m1 : low.size ≤ maxLen) (m2 : value.size ≤ maxLen) (m3 : unit.size ≤ maxLen) (m4 : base.size ≤ maxLen) (m5 : subject.size ≤ maxLen) :
    Calls Try.prog 4 #[.int .i64 rel, .string low, .string value, .string unit, .string base, .string subject] w fun e w' => e = .returned (.bool true) ∧ Grown w w' := by
  have HB := fun w => bytes_rel rel low value unit base subject w m1 m2 m3 m4 m5
  have HBB : Hid (∀ w, Calls Try.prog 8 #[.int .i64 rel, .string low, .string value, .string unit, .string base, .string subject] w fun e w' => ∃ r : Bool, e = .returned (.bool r) ∧ w = w') := HB
  clear HB
  unfold maxLen at m1 m2 m3 m4 m5
  by_cases g1 : low.size ≤ 65536
  rotate_left
  · have g : 65536 < low.size := by omega
    clear g1
    go_enter Try.func4, Try.ntmps4
    go_wp2_with fail
    refine (HBB.out _).mono ?_
    rintro e w' ⟨r, rfl, rfl⟩
    cases r
    all_goals
      go_wp2
      go_ret
      exact ⟨rfl, Grown.refl _⟩
  by_cases g2 : value.size ≤ 65536
  rotate_left
  · have g : 65536 < value.size := by omega
    clear g2
    go_enter Try.func4, Try.ntmps4
    go_wp2_with fail
    refine (HBB.out _).mono ?_
    rintro e w' ⟨r, rfl, rfl⟩
    cases r
    all_goals
      go_wp2
      go_ret
      exact ⟨rfl, Grown.refl _⟩
  by_cases g3 : unit.size ≤ 65536
  rotate_left
  · have g : 65536 < unit.size := by omega
    clear g3
    go_enter Try.func4, Try.ntmps4
    go_wp2_with fail
    refine (HBB.out _).mono ?_
    rintro e w' ⟨r, rfl, rfl⟩
    cases r
    all_goals
      go_wp2
      go_ret
      exact ⟨rfl, Grown.refl _⟩
  by_cases g4 : base.size ≤ 65536
  rotate_left
  · have g : 65536 < base.size := by omega
    clear g4
    go_enter Try.func4, Try.ntmps4
    go_wp2_with fail
    refine (HBB.out _).mono ?_
    rintro e w' ⟨r, rfl, rfl⟩
    cases r
    all_goals
      go_wp2
      go_ret
      exact ⟨rfl, Grown.refl _⟩
  by_cases g5 : subject.size ≤ 65536
  rotate_left
  · have g : 65536 < subject.size := by omega
    clear g5
    go_enter Try.func4, Try.ntmps4
    go_wp2_with fail
    refine (HBB.out _).mono ?_
    rintro e w' ⟨r, rfl, rfl⟩
    cases r
    all_goals
      go_wp2
      go_ret
      exact ⟨rfl, Grown.refl _⟩
  clear m1 m2 m3 m4 m5
  obtain ⟨S, hS⟩ : ∃ S, S = pre rel low ++ (value ++ unit) := ⟨_, rfl⟩
  have hsz : S.size ≤ 300000 := by
    have := pre_size rel low
    rw [hS, ByteArray.size_append, ByteArray.size_append]; omega
  have HS : Hid (S = pre rel low ++ (value ++ unit)) := hS
  have HE : Hid (∃ p, S = p ++ (value ++ unit)) := ⟨_, hS⟩
  clear hS
  go_enter Try.func4, Try.ntmps4
  go_wp2_with fail
  refine (HBB.out _).mono ?_
  rintro e w' ⟨r, rfl, rfl⟩
  cases r
  · go_wp2
    go_ret
    exact ⟨rfl, Grown.refl _⟩
  rcases rel_parts rel with q | ⟨q, q1, HC⟩ | ⟨q, q1, HC⟩ | ⟨q, q1, HC⟩
  · subst q
    have hA : (S.toList == ((⟨#[105, 110, 32]⟩ : ByteArray) ++ low ++ ⟨#[45]⟩ ++ value ++ unit).toList) = true := by
      rw [HS.out]
      simp [pre, ByteArray.append_assoc]
    obtain ⟨N, hN⟩ : ∃ N, N = pre 3 ⟨#[]⟩ ++ (value ++ unit) := ⟨_, rfl⟩
    have HN : Hid (N = pre 3 ⟨#[]⟩ ++ (value ++ unit)) := hN
    clear hN
    go_wp2_with fail
    refine (str_any 3 low value unit base subject S _ (by omega) (by omega) (by omega) HS).mono ?_
    rintro e w1 ⟨rfl, rfl⟩
    go_wp2_with fail
    refine (str_any 3 low value unit _ _ S _ (by omega) (by omega) (by omega) HS).mono ?_
    rintro e w1 ⟨rfl, rfl⟩
    go_wp2_with fail
    refine (str_any 3 ⟨#[]⟩ value unit base subject N _ (by decide) (by omega) (by omega) HN).mono ?_
    rintro e w1 ⟨rfl, rfl⟩
    go_wp2_with fail
    refine (read_any 3 low (value ++ unit) S _ (by omega) HS).mono ?_
    rintro e w1 ⟨rfl, rfl⟩
    rw [show codeOf 3 = 3 from rfl]
    go_wp2_with fail
    refine (ends_yes S (value ++ unit) _ (by omega) HE).mono ?_
    rintro e w1 ⟨rfl, rfl⟩
    go_wp2
    go_ret
    exact ⟨rfl, by repeat (first | exact Grown.refl _ | apply Grown.drew | apply Grown.alloc)⟩
  all_goals
    have k3 : (rel == 3) = false := by simpa using q
    have HN : Hid (S = pre rel ⟨#[]⟩ ++ (value ++ unit)) := by rw [pre_other rel ⟨#[]⟩ low q]; exact HS
    clear q
    go_wp2_with fail
    refine (str_any rel low value unit base subject S _ (by omega) (by omega) (by omega) HS).mono ?_
    rintro e w1 ⟨rfl, rfl⟩
    go_wp2_with fail
    refine (str_any rel low value unit _ _ S _ (by omega) (by omega) (by omega) HS).mono ?_
    rintro e w1 ⟨rfl, rfl⟩
    go_wp2_with fail
    refine (str_any rel ⟨#[]⟩ value unit base subject S _ (by decide) (by omega) (by omega) HN).mono ?_
    rintro e w1 ⟨rfl, rfl⟩
    go_wp2_with fail
    refine (read_any rel low (value ++ unit) S _ (by omega) HS).mono ?_
    rintro e w1 ⟨rfl, rfl⟩
    rw [HC.out]
    go_wp2_with fail
    refine (ends_yes S (value ++ unit) _ (by omega) HE).mono ?_
    rintro e w1 ⟨rfl, rfl⟩
    go_wp2
    go_ret
    exact ⟨rfl, by repeat (first | exact Grown.refl _ | apply Grown.drew | apply Grown.alloc)⟩

end Go.Proofs.Qxb6629115a
