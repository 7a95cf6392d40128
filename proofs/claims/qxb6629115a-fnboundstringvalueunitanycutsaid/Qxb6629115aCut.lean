/-
  Seat b6629115a: the walk of 'FnBoundStringValueUnitAnyCut'.
-/
import Derived.Test.Qxb6629115aBase
import Derived.RegionTactic
namespace Go.Proofs.Qxb6629115a
open Go.RowKit

set_option maxHeartbeats 1000000 in
theorem bytes_cut (r : Int) (a1 a2 a3 a4 a5 : ByteArray) (c : Int) (w : World) (h1 : a1.size ≤ maxLen) (h2 : a2.size ≤ maxLen) (h3 : a3.size ≤ maxLen) (h4 : a4.size ≤ maxLen) (h5 : a5.size ≤ maxLen) :
    Calls Try.prog 5 #[.int .i64 r, .string a1, .string a2, .string a3, .string a4, .string a5, .int .i64 c] w fun e w' => ∃ r : Bool, e = .returned (.bool r) ∧ w = w' := by
  unfold maxLen at h1 h2 h3 h4 h5
  go_enter Try.func5, Try.ntmps5
  go_wp2
  all_goals
    go_ret
    exact ⟨_, rfl, rfl⟩

/-- a string's two parts at any cut make the string -/
theorem cut_law (a b : ByteArray) (k : Nat) : (a ++ b).extract 0 k ++ (a ++ b).extract k (a.size + b.size) = a ++ b := by
  rw [← ByteArray.size_append]
  generalize a ++ b = J
  rw [Lib.extract_eq, Lib.extract_eq]
  apply ByteArray.ext
  apply Array.toList_inj.1
  rw [data_app]
  simp only [Nat.sub_zero, List.drop_zero]
  rw [List.take_of_length_le (l := List.drop k J.data.toList) (by rw [List.length_drop, ← Lib.size_eq]; omega), List.take_append_drop]

set_option maxHeartbeats 4000000 in
set_option maxRecDepth 100000 in
theorem cut_walk (rel : Int) (low value unit base subject : ByteArray) (cut : Int) (w : World) (m1 : low.size ≤ maxLen) (m2 : value.size ≤ maxLen) (m3 : unit.size ≤ maxLen) (m4 : base.size ≤ maxLen) (m5 : subject.size ≤ maxLen) :
    Calls Try.prog 3 #[.int .i64 rel, .string low, .string value, .string unit, .string base, .string subject, .int .i64 cut] w fun e w' => e = .returned (.bool true) ∧ Grown w w' := by
  have HB := fun w => bytes_cut rel low value unit base subject cut w m1 m2 m3 m4 m5
  have HBB : Hid (∀ w, Calls Try.prog 5 #[.int .i64 rel, .string low, .string value, .string unit, .string base, .string subject, .int .i64 cut] w fun e w' => ∃ r : Bool, e = .returned (.bool r) ∧ w = w') := HB
  clear HB
  unfold maxLen at m1 m2 m3 m4 m5
  by_cases g1 : low.size ≤ 65536
  rotate_left
  · have g : 65536 < low.size := by omega
    clear g1
    go_enter Try.func3, Try.ntmps3
    go_wp2_with fail
    refine (HBB.out _).mono ?_
    rintro e w' ⟨r, rfl, rfl⟩
    cases r
    all_goals
      go_wp2
      go_ret
      exact ⟨rfl, Grown.refl _⟩
  by_cases g2 : value.size ≤ 65536
  rotate_left
  · have g : 65536 < value.size := by omega
    clear g2
    go_enter Try.func3, Try.ntmps3
    go_wp2_with fail
    refine (HBB.out _).mono ?_
    rintro e w' ⟨r, rfl, rfl⟩
    cases r
    all_goals
      go_wp2
      go_ret
      exact ⟨rfl, Grown.refl _⟩
  by_cases g3 : unit.size ≤ 65536
  rotate_left
  · have g : 65536 < unit.size := by omega
    clear g3
    go_enter Try.func3, Try.ntmps3
    go_wp2_with fail
    refine (HBB.out _).mono ?_
    rintro e w' ⟨r, rfl, rfl⟩
    cases r
    all_goals
      go_wp2
      go_ret
      exact ⟨rfl, Grown.refl _⟩
  by_cases g4 : base.size ≤ 65536
  rotate_left
  · have g : 65536 < base.size := by omega
    clear g4
    go_enter Try.func3, Try.ntmps3
    go_wp2_with fail
    refine (HBB.out _).mono ?_
    rintro e w' ⟨r, rfl, rfl⟩
    cases r
    all_goals
      go_wp2
      go_ret
      exact ⟨rfl, Grown.refl _⟩
  by_cases g5 : subject.size ≤ 65536
  rotate_left
  · have g : 65536 < subject.size := by omega
    clear g5
    go_enter Try.func3, Try.ntmps3
    go_wp2_with fail
    refine (HBB.out _).mono ?_
    rintro e w' ⟨r, rfl, rfl⟩
    cases r
    all_goals
      go_wp2
      go_ret
      exact ⟨rfl, Grown.refl _⟩
  by_cases g6 : 0 ≤ cut
  rotate_left
  · have g : cut < 0 := by omega
    clear g6
    go_enter Try.func3, Try.ntmps3
    go_wp2_with fail
    refine (HBB.out _).mono ?_
    rintro e w' ⟨r, rfl, rfl⟩
    cases r
    all_goals
      go_wp2
      go_ret
      exact ⟨rfl, Grown.refl _⟩
  by_cases g7 : cut ≤ (value.size : Int) + (unit.size : Int)
  rotate_left
  · have g : (value.size : Int) + (unit.size : Int) < cut := by omega
    clear g7
    go_enter Try.func3, Try.ntmps3
    go_wp2_with fail
    refine (HBB.out _).mono ?_
    rintro e w' ⟨r, rfl, rfl⟩
    cases r
    all_goals
      go_wp2
      go_ret
      exact ⟨rfl, Grown.refl _⟩
  clear m1 m2 m3 m4 m5
  obtain ⟨k, rfl⟩ := Int.eq_ofNat_of_zero_le g6
  obtain ⟨S, hS⟩ : ∃ S, S = pre rel low ++ (value ++ unit) := ⟨_, rfl⟩
  have hsz : S.size ≤ 300000 := by
    have := pre_size rel low
    rw [hS, ByteArray.size_append, ByteArray.size_append]; omega
  have HS : Hid (S = pre rel low ++ (value ++ unit)) := hS
  have HE : Hid (∃ p, S = p ++ (value ++ unit)) := ⟨_, hS⟩
  have HS2 : Hid (S = pre rel low ++ ((value ++ unit).extract 0 k ++ (value ++ unit).extract k (value.size + unit.size))) := by
    show S = _
    rw [cut_law value unit k]; exact hS
  have z1 : Hid (((value ++ unit).extract 0 k).size ≤ 200000) := by show _ ≤ _; rw [ByteArray.size_extract, ByteArray.size_append]; omega
  have z2 : Hid (((value ++ unit).extract k (value.size + unit.size)).size ≤ 200000) := by show _ ≤ _; rw [ByteArray.size_extract, ByteArray.size_append]; omega
  obtain ⟨M, hM⟩ : ∃ M, M = pre 1 low ++ (value ++ unit) := ⟨_, rfl⟩
  have HM : Hid (M = pre 1 low ++ (value ++ unit)) := hM
  have hMe : (M.toList == ((⟨#[60, 61, 32]⟩ : ByteArray) ++ (value ++ unit)).toList) = true := by rw [hM]; simp [pre]
  clear hS hM
  go_enter Try.func3, Try.ntmps3
  go_wp2_with fail
  refine (HBB.out _).mono ?_
  rintro e w' ⟨r, rfl, rfl⟩
  cases r
  · go_wp2
    go_ret
    exact ⟨rfl, Grown.refl _⟩
  go_wp2_with fail
  go_region
  all_goals
    go_wp2_with fail
    refine (str_any rel low value unit base subject S _ (by omega) (by omega) (by omega) HS).mono ?_
    rintro e w1 ⟨rfl, rfl⟩
    go_wp2_with fail
    refine (str_any rel low _ _ base subject S _ (by omega) z1.out z2.out HS2).mono ?_
    rintro e w1 ⟨rfl, rfl⟩
    go_wp2_with fail
    refine (str_any 1 low value unit base subject M _ (by omega) (by omega) (by omega) HM).mono ?_
    rintro e w1 ⟨rfl, rfl⟩
    go_wp2_with fail
    refine (ends_yes S (value ++ unit) _ (by omega) HE).mono ?_
    rintro e w1 ⟨rfl, rfl⟩
    go_wp2
    go_ret
    exact ⟨rfl, by repeat (first | exact Grown.refl _ | apply Grown.drew | apply Grown.alloc)⟩

end Go.Proofs.Qxb6629115a
