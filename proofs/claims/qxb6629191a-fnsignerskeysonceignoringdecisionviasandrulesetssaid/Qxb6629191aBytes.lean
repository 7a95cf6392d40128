/-
  Seat b6629191a: the two bounds on the arguments' bytes: where they answer yes, each string has at most 2^20 bytes.
-/
import Derived.Test.Qxb6629191aBase
namespace Go.Proofs.Qxb6629191a
open Go.RowKit Sg

/-- what a yes of the bounds tells -/
def Small (len : Nat) (ks vs : List ByteArray) : Prop := len ≤ 1048576 ∧ ∀ i, i < len → (ks[i]?.getD E0).size ≤ 1048576 ∧ (vs[i]?.getD E0).size ≤ 1048576

set_option maxHeartbeats 2000000 in
set_option maxRecDepth 100000 in
theorem bytes_keys (al : Bool) (a : Option Addr) (len cap : Nat) (ks vs : List ByteArray) (via : ByteArray) (B : Nat) (w : World) (hrd : Pr w B a len cap ks vs)
    (hk : ∀ i, i < len → (ks[i]?.getD E0).size ≤ maxLen) (hv : ∀ i, i < len → (vs[i]?.getD E0).size ≤ maxLen) (hvia : via.size ≤ maxLen) :
    Calls Try.prog 12 #[.bool al, .slice a len cap, .string via] w fun e w' => ∃ r : Bool, e = .returned (.bool r) ∧ (r = true → Small len ks vs) ∧ w = w' := by
  have HR : Hid (Pr w B a len cap ks vs) := hrd
  have HK : Hid (∀ i, i < len → (ks[i]?.getD E0).size ≤ maxLen) := hk
  have HV : Hid (∀ i, i < len → (vs[i]?.getD E0).size ≤ maxLen) := hv
  unfold maxLen at hvia
  clear hrd hk hv
  by_cases hb : 1048576 < len
  · have hbi : (1048576 : Int) < (len : Int) := by omega
    go_enter Try.func12, Try.ntmps12
    go_wp2
    go_ret
    exact ⟨false, rfl, by simp, rfl⟩
  · have hbi : decide ((1048576 : Int) < (len : Int)) = false := decide_eq_false (by omega)
    go_enter Try.func12, Try.ntmps12
    go_wp2
    go_loopw [7, 8] (fun t i wr => ∃ k T : Nat, k ≤ len ∧ i = .int .i64 k ∧ t = .int .i64 T ∧ T ≤ 1048576 ∧ Hid (∀ i, i < k → (ks[i]?.getD E0).size ≤ 1048576 ∧ (vs[i]?.getD E0).size ≤ 1048576) ∧ w = wr) (fun _ i _ => len - (intOf i).toNat)
    case atStart => exact ⟨0, len, Nat.zero_le _, rfl, rfl, by omega, fun i hi => absurd hi (Nat.not_lt_zero _), rfl⟩
    case round =>
      obtain ⟨k, T, hk, rfl, rfl, hT1, hS, rfl⟩ := hrel
      by_cases hlt : k < len
      · obtain ⟨b, off, rfl, _, hc⟩ := HR.out.cells (by omega)
        obtain ⟨hc1, hc2⟩ := hc k hlt
        have s1 := HK.out k hlt
        have s2 := HV.out k hlt
        have HS2 : Hid ((ks[k]?.getD E0).size ≤ 1048576 → (vs[k]?.getD E0).size ≤ 1048576 → ∀ i, i < k + 1 → (ks[i]?.getD E0).size ≤ 1048576 ∧ (vs[i]?.getD E0).size ≤ 1048576) := fun q1 q2 i hi => if h : i < k then hS.out i h else by rw [show i = k by omega]; exact ⟨q1, q2⟩
        unfold maxLen at s1 s2
        clear hc hS
        generalize ks[k]?.getD E0 = s at *
        generalize vs[k]?.getD E0 = v at *
        have hki : (k : Int) < (len : Int) := by omega
        by_cases e1 : 1048576 < s.size
        · have f1 : (1048576 : Int) < (s.size : Int) := by omega
          go_wp2
          go_ret
          exact ⟨false, rfl, by simp, rfl⟩
        have f1 : decide (1048576 < s.size) = false := decide_eq_false e1
        by_cases e2 : 1048576 < T + s.size
        · have f2 : (1048576 : Int) < (T : Int) + (s.size : Int) := by omega
          go_wp2
          go_ret
          exact ⟨false, rfl, by simp, rfl⟩
        have f2 : decide ((1048576 : Int) < (T : Int) + (s.size : Int)) = false := decide_eq_false (by omega)
        by_cases e3 : 1048576 < v.size
        · have f3 : (1048576 : Int) < (v.size : Int) := by omega
          go_wp2
          go_ret
          exact ⟨false, rfl, by simp, rfl⟩
        have f3 : decide (1048576 < v.size) = false := decide_eq_false e3
        by_cases e4 : 1048576 < T + s.size + v.size
        · have f4 : (1048576 : Int) < (T : Int) + (s.size : Int) + (v.size : Int) := by omega
          go_wp2
          go_ret
          exact ⟨false, rfl, by simp, rfl⟩
        have f4 : decide ((1048576 : Int) < (T : Int) + (s.size : Int) + (v.size : Int)) = false := decide_eq_false (by omega)
        go_wp2
        go_roundw
        case rel => exact ⟨k + 1, T + s.size + v.size, by omega, by go_num, by go_num, by omega, HS2.out (by omega) (by omega), by trivial⟩
        case measure => simp [intOf]; omega
      · have R : Hid (Small len ks vs) := ⟨by omega, fun i hi => hS.out i (by omega)⟩
        clear hS
        go_wp2
        all_goals
          go_ret
          exact ⟨_, rfl, fun _ => R.out, rfl⟩

end Go.Proofs.Qxb6629191a
