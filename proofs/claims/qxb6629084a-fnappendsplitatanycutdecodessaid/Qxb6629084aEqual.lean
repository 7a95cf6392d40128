/-
  Seat b6629084a: 'escB1Equal' answers whether the two slices read alike. It only reads (its test draws its order).
-/
import Derived.Test.Qxb6629084aBase
namespace Go.Proofs.Qxb6629084a
open Go.RowKit Esc

theorem eq_of_all {a b : List Int} (hl : a.length = b.length) (h : ∀ i, i < a.length → a[i]?.getD 0 = b[i]?.getD 0) : a = b := by
  apply List.ext_getElem hl
  intro i h1 h2
  have := h i h1
  rw [List.getElem?_eq_getElem h1, List.getElem?_eq_getElem h2] at this
  simpa using this

set_option maxHeartbeats 1000000 in
theorem equal_any (a1 : Option Addr) (l1 c1 : Nat) (z1 : List Int) (a2 : Option Addr) (l2 c2 : Nat) (z2 : List Int) (B : Nat) (w : World)
    (h1 : Rd w B a1 l1 c1 z1) (h2 : Rd w B a2 l2 c2 z2) (hm : l1 ≤ 4611686018427387904) :
    Calls Try.prog 8 #[.slice a1 l1 c1, .slice a2 l2 c2] w fun e w' => e = .returned (.bool (decide (z1 = z2))) ∧ ∃ n, w' = w.drewN n := by
  by_cases hl : l1 = l2
  · subst hl
    have hne : ((l1 : Int) != (l1 : Int)) = false := by simp
    by_cases h0 : l1 = 0
    · subst h0
      have e1 : z1 = [] := List.eq_nil_of_length_eq_zero h1.size
      have e2 : z2 = [] := List.eq_nil_of_length_eq_zero h2.size
      rw [e1, e2]
      clear h1 h2 e1 e2
      go_enter Try.func8, Try.ntmps8
      go_wp2
      refine wp_loop_rounds 1 ?_
      rw [rounds_succ]
      go_wp2
      go_ret
      exact ⟨rfl, 0, rfl⟩
    · obtain ⟨b1, o1, rfl, _, hc1⟩ := h1.cells (by omega)
      obtain ⟨b2, o2, rfl, _, hc2⟩ := h2.cells (by omega)
      have s1 := h1.size
      have s2 := h2.size
      clear h1 h2
      have HS : Hid (z1.length = l1 ∧ z2.length = l1) := ⟨s1, s2⟩
      have HA : Hid (∀ i, i < l1 → w.cell? ⟨b1, o1 + i, none⟩ = some (.int .u8 (z1[i]?.getD 0))) := hc1
      have HB : Hid (∀ i, i < l1 → w.cell? ⟨b2, o2 + i, none⟩ = some (.int .u8 (z2[i]?.getD 0))) := hc2
      clear s1 s2 hc1 hc2
      go_enter Try.func8, Try.ntmps8
      go_wp2
      go_loopw [5] (fun i wr => ∃ k n : Nat, k ≤ l1 ∧ i = .int .i64 k ∧ wr = w.drewN n ∧ Hid (∀ i, i < k → z1[i]?.getD 0 = z2[i]?.getD 0)) (fun i _ => l1 - (intOf i).toNat)
      case atStart => exact ⟨0, 0, Nat.zero_le _, rfl, rfl, fun i hi => absurd hi (Nat.not_lt_zero _)⟩
      case round =>
        obtain ⟨k, n, hk, rfl, rfl, hq⟩ := hrel
        by_cases hlt : k < l1
        · have g1 := HA.out k hlt
          have g2 := HB.out k hlt
          by_cases hv : z1[k]?.getD 0 = z2[k]?.getD 0
          · rw [← hv] at g2
            have hvn : (z1[k]?.getD 0 != z1[k]?.getD 0) = false := by simp
            have HQ : Hid (∀ i, i < k + 1 → z1[i]?.getD 0 = z2[i]?.getD 0) := fun i hi => if h : i < k then hq.out i h else by rw [show i = k by omega]; exact hv
            clear hv hq
            go_wp2
            go_quiet (fail)
            go_wp2
            go_roundw
            case rel => exact ⟨k + 1, _, by omega, by go_num, rfl, HQ⟩
            case measure => simp [intOf]; omega
          · have hvn : (z1[k]?.getD 0 != z2[k]?.getD 0) = true := by simpa using hv
            have hd : decide (z1 = z2) = false := by
              simp
              rintro rfl
              exact hv rfl
            have HD : Hid (decide (z1 = z2) = false) := hd
            clear hv hq hd
            go_wp2
            go_quiet (fail)
            go_wp2
            go_ret
            exact ⟨by rw [HD.out]; rfl, _, World.drewN_drewN _ _ _⟩
        · have hd : decide (z1 = z2) = true := by
            have hs := HS.out
            simp
            exact eq_of_all (by omega) (fun i hi => hq.out i (by omega))
          have HD : Hid (decide (z1 = z2) = true) := hd
          clear hq hd
          go_wp2
          go_ret
          exact ⟨by rw [HD.out]; rfl, _, rfl⟩
  · have hne : ((l1 : Int) != (l2 : Int)) = true := by simp; omega
    have hd : decide (z1 = z2) = false := by
      simp
      rintro rfl
      exact hl (h1.size.symm.trans h2.size)
    rw [hd]
    clear h1 h2
    go_enter Try.func8, Try.ntmps8
    go_wp2
    go_ret
    exact ⟨rfl, 0, rfl⟩

end Go.Proofs.Qxb6629084a
