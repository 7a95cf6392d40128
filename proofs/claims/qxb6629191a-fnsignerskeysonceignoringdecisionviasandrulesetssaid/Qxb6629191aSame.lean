/-
  Seat b6629191a: 'zzSame' of two slices that read alike; 'zzToSteps'; the bounds.
-/
import Derived.Test.Qxb6629191aBase
namespace Go.Proofs.Qxb6629191a
open Go.RowKit Sg

set_option maxHeartbeats 1000000 in
theorem same_yes (a1 : Option Addr) (l1 c1 : Nat) (a2 : Option Addr) (l2 c2 : Nat) (z1 z2 : List ByteArray) (B : Nat) (w : World)
    (h1 : Ss w B a1 l1 c1 z1) (h2 : Ss w B a2 l2 c2 z2) (hm : l1 ≤ 1099511627776) (he : z1 = z2) :
    Calls Try.prog 11 #[.slice a1 l1 c1, .slice a2 l2 c2] w fun e w' => e = .returned (.bool true) ∧ ∃ n, w' = w.drewN n := by
  subst he
  have hl : l1 = l2 := h1.size.symm.trans h2.size
  subst hl
  have hne : ((l1 : Int) != (l1 : Int)) = false := by simp
  by_cases h0 : l1 = 0
  · subst h0
    clear h1 h2
    go_enter Try.func11, Try.ntmps11
    go_wp2
    refine wp_loop_rounds 1 ?_
    rw [rounds_succ]
    go_wp2
    go_ret
    exact ⟨rfl, 0, rfl⟩
  · obtain ⟨b1, o1, rfl, _, hc1⟩ := h1.cells (by omega)
    obtain ⟨b2, o2, rfl, _, hc2⟩ := h2.cells (by omega)
    have HA : Hid (∀ i, i < l1 → w.cell? ⟨b1, o1 + i, none⟩ = some (.string (z1[i]?.getD E0))) := hc1
    have HB : Hid (∀ i, i < l1 → w.cell? ⟨b2, o2 + i, none⟩ = some (.string (z1[i]?.getD E0))) := hc2
    clear hc1 hc2 h1 h2
    go_enter Try.func11, Try.ntmps11
    go_wp2
    go_loopw [5] (fun i wr => ∃ k n : Nat, k ≤ l1 ∧ i = .int .i64 k ∧ wr = w.drewN n) (fun i _ => l1 - (intOf i).toNat)
    case atStart => exact ⟨0, 0, Nat.zero_le _, rfl, rfl⟩
    case round =>
      obtain ⟨k, n, hk, rfl, rfl⟩ := hrel
      by_cases hlt : k < l1
      · have g1 := HA.out k hlt
        have g2 := HB.out k hlt
        generalize z1[k]?.getD E0 = c at *
        have hvn : (c.toList != c.toList) = false := by simp
        go_wp2
        go_quiet (fail)
        go_wp2
        go_roundw
        case rel => exact ⟨k + 1, _, by omega, by go_num, rfl⟩
        case measure => simp [intOf]; omega
      · go_wp2
        go_ret
        exact ⟨rfl, _, rfl⟩

/-- A ROW OF len STEPS THAT IS BEING FILLED. -/
def FillP (w : World) (g len k : Nat) (ks vs : List ByteArray) : Prop := ∃ cur : Array Value, w.heap[g]? = some (.cells cur 32 (0, 0)) ∧ cur.size = len * 2 ∧ ∀ i, i < k → cur[i * 2]? = some (.string (ks[i]?.getD E0)) ∧ cur[i * 2 + 1]? = some (.string (vs[i]?.getD E0))

theorem FillP.start {w : World} {B g len : Nat} {ks vs : List ByteArray} {xs : List Value} (h : w.ownsRow B 32 2 (.slice (some ⟨g, 0, none⟩) len len) len xs) : FillP w g len 0 ks vs := by
  rcases h.2 with ⟨h', _⟩ | ⟨g', cap', cur, h', _, hg, _, _, hcs, _⟩
  · simp at h'
  · simp only [Value.slice.injEq, Option.some.injEq, Addr.mk.injEq, and_true, true_and] at h'
    obtain ⟨rfl, rfl⟩ := h'
    exact ⟨cur, hg, hcs, fun i hi => absurd hi (Nat.not_lt_zero _)⟩

theorem FillP.cell {w : World} {g len k : Nat} {ks vs : List ByteArray} (h : FillP w g len k ks vs) {i : Nat} (hi : i < len * 2) : (∃ v, w.cell? ⟨g, i, none⟩ = some v) ∧ w.frozen? ⟨g, i, none⟩ = false := by
  obtain ⟨cur, hg, hs, _⟩ := h
  exact ⟨⟨cur[i]'(by omega), by rw [cell_of_row w g i cur 32 (0, 0) hg]; simp [hs, hi]⟩, frozen_of_row w g i cur 32 hg⟩

theorem FillP.step {w : World} {g len k : Nat} {ks vs : List ByteArray} (h : FillP w g len k ks vs) (hk : k < len) {s v : ByteArray} (hs : s = ks[k]?.getD E0) (hv : v = vs[k]?.getD E0) :
    FillP ((w.setCell ⟨g, k * 2, none⟩ (.string s)).setCell ⟨g, k * 2 + 1, none⟩ (.string v)) g len (k + 1) ks vs ∧ w.grownBy ((w.setCell ⟨g, k * 2, none⟩ (.string s)).setCell ⟨g, k * 2 + 1, none⟩ (.string v)) (some g) := by
  subst hs
  subst hv
  obtain ⟨cur, hg, hsz, hf⟩ := h
  have h1 := heap_setCell_same w g (k * 2) cur 32 (.string (ks[k]?.getD E0)) hg
  refine ⟨⟨(cur.setIfInBounds (k * 2) (.string (ks[k]?.getD E0))).setIfInBounds (k * 2 + 1) (.string (vs[k]?.getD E0)), heap_setCell_same _ g (k * 2 + 1) _ 32 _ h1, by simpa using hsz, fun i hi => ?_⟩, ⟨rfl, rfl, rfl, by simp, fun j _ hj => ?_⟩⟩
  · by_cases he : i = k
    · subst he
      refine ⟨?_, ?_⟩
      · rw [Array.getElem?_setIfInBounds_ne (by omega), Array.getElem?_setIfInBounds_self_of_lt (by omega)]
      · rw [Array.getElem?_setIfInBounds_self_of_lt (by simp; omega)]
    · refine ⟨?_, ?_⟩
      · rw [Array.getElem?_setIfInBounds_ne (by omega), Array.getElem?_setIfInBounds_ne (by omega)]
        exact (hf i (by omega)).1
      · rw [Array.getElem?_setIfInBounds_ne (by omega), Array.getElem?_setIfInBounds_ne (by omega)]
        exact (hf i (by omega)).2
  · rw [heap_setCell_other _ ⟨g, k * 2 + 1, none⟩ j _ (fun e => hj (by simp [e])), heap_setCell_other _ ⟨g, k * 2, none⟩ j _ (fun e => hj (by simp [e]))]

theorem FillP.done {w : World} {g len : Nat} {ks vs : List ByteArray} (h : FillP w g len len ks vs) (h1 : ks.length = len) (h2 : vs.length = len) : Pr w w.heap.size (some ⟨g, 0, none⟩) len len ks vs := by
  obtain ⟨cur, hg, _, hf⟩ := h
  refine ⟨h1, h2, Nat.le_refl _, fun h => (by cases h), fun _ => ⟨g, 0, rfl, (Array.getElem?_eq_some_iff.1 hg).1, fun i hi => ⟨?_, ?_⟩⟩⟩
  · rw [Nat.zero_add, cell_of_row w g _ cur 32 (0, 0) hg]; exact (hf i hi).1
  · rw [Nat.zero_add, cell_of_row w g _ cur 32 (0, 0) hg]; exact (hf i hi).2

set_option maxHeartbeats 1000000 in
theorem steps_any (a : Option Addr) (len cap : Nat) (ks vs : List ByteArray) (w : World) (hrd : Pr w w.heap.size a len cap ks vs) (hm : len ≤ 1099511627776) :
    Calls Try.prog 7 #[.slice a len cap] w fun e w' => ∃ g, e = .returned (.slice (some ⟨g, 0, none⟩) len len) ∧ w.heap.size ≤ g ∧ Pr w' w'.heap.size (some ⟨g, 0, none⟩) len len ks vs ∧ Below w.heap.size w w' := by
  obtain ⟨i0, hi, hz0, hz1, hz2⟩ := info_parts Try.info32
  have HR : Hid (Pr w w.heap.size a len cap ks vs) := hrd
  clear hrd
  go_enter Try.func7, Try.ntmps7
  go_wp2_with (at_make; refine wpList_make_full _ rfl _ _ 25 rfl w.heap.size 32 i0 (.agg #[.string ⟨#[]⟩, .string ⟨#[]⟩]) 2 Try.underlying25 hi hz0 hz1 _ _ _ _ len rfl rfl rfl rfl ?b2 ?b3 ?b4 ?_)
  case b2 => rw [hz2]; omega
  case b3 => unfold maxLen; omega
  case b4 => exact Nat.le_refl _
  intro w1 hown1 hgrow1
  have hb1 : Below w.heap.size w w1 := (Below.refl _ _).grown hgrow1 (Nat.le_refl _) (fun k h => by cases h)
  have HF : Hid (FillP w1 w.heap.size len 0 ks vs) := FillP.start hown1
  clear hown1 hgrow1
  go_wp2
  go_loopw [4] (fun i wr => ∃ k : Nat, k ≤ len ∧ i = .int .i64 k ∧ Hid (FillP wr w.heap.size len k ks vs) ∧ Below w.heap.size w wr) (fun i _ => len - (intOf i).toNat)
  case atStart => exact ⟨0, Nat.zero_le _, rfl, HF, hb1⟩
  case round =>
    obtain ⟨k, hk, rfl, hf, hnx⟩ := hrel
    clear HF hb1
    by_cases hlt : k < len
    · obtain ⟨b, off, rfl, hb, hc⟩ := HR.out.cells (by omega)
      have hc1 : wr.cell? ⟨b, off + k * 2, none⟩ = some (.string (ks[k]?.getD E0)) := (hnx.cell (p := ⟨b, off + k * 2, none⟩) hb).trans (hc k hlt).1
      have hc2 : wr.cell? ⟨b, off + k * 2 + 1, none⟩ = some (.string (vs[k]?.getD E0)) := (hnx.cell (p := ⟨b, off + k * 2 + 1, none⟩) hb).trans (hc k hlt).2
      obtain ⟨⟨u1, hu1⟩, hz1⟩ := hf.out.cell (i := k * 2) (by omega)
      obtain ⟨⟨u2, hu2⟩, hz2⟩ := hf.out.cell (i := k * 2 + 1) (by omega)
      have hki : (k : Int) < (len : Int) := by omega
      have R := hf.out.step hlt rfl rfl
      have R1 : Hid (FillP ((wr.setCell ⟨w.heap.size, k * 2, none⟩ (.string (ks[k]?.getD E0))).setCell ⟨w.heap.size, k * 2 + 1, none⟩ (.string (vs[k]?.getD E0))) w.heap.size len (k + 1) ks vs) := R.1
      have R2 : Below w.heap.size w ((wr.setCell ⟨w.heap.size, k * 2, none⟩ (.string (ks[k]?.getD E0))).setCell ⟨w.heap.size, k * 2 + 1, none⟩ (.string (vs[k]?.getD E0))) := hnx.grown R.2 hnx.size (fun j hj => by cases hj; exact Nat.le_refl _)
      clear R hf hc
      generalize ks[k]?.getD E0 = s at *
      generalize vs[k]?.getD E0 = v at *
      go_wp2
      go_region
      all_goals
        go_wp2
        go_roundw
        case rel => exact ⟨k + 1, by omega, by go_num, R1, R2.drew⟩
        case measure => simp [intOf]; omega
    · have : k = len := by omega
      subst this
      go_wp2
      go_ret
      exact ⟨_, rfl, Nat.le_refl _, hf.out.done HR.out.size HR.out.sizev, hnx⟩

set_option maxHeartbeats 1000000 in
/-- 'zzProofTooBig': where it answers no, there are at most 32768 steps -/
theorem big_any (a : Option Addr) (len cap : Nat) (ks vs : List ByteArray) (x : Nat) (B : Nat) (w : World) (hrd : Pr w B a len cap ks vs) (hk : ∀ i, i < len → (ks[i]?.getD E0).size ≤ 1048576) (hv : ∀ i, i < len → (vs[i]?.getD E0).size ≤ 1048576) (hx : x ≤ 4194304) (hm : len ≤ 1099511627776) :
    Calls Try.prog 6 #[.slice a len cap, .int .i64 x] w fun e w' => ∃ r : Bool, e = .returned (.bool r) ∧ (r = false → len ≤ 32768) ∧ ∃ n, w' = w.drewN n := by
  have HR : Hid (Pr w B a len cap ks vs) := hrd
  have HK : Hid (∀ i, i < len → (ks[i]?.getD E0).size ≤ 1048576) := hk
  have HV : Hid (∀ i, i < len → (vs[i]?.getD E0).size ≤ 1048576) := hv
  clear hrd hk hv
  by_cases hb : 1048576 < x
  · have hbi : (1048576 : Int) < (x : Int) := by omega
    go_enter Try.func6, Try.ntmps6
    go_wp2
    go_ret
    exact ⟨true, rfl, by simp, 0, rfl⟩
  · have hbi : decide ((1048576 : Int) < (x : Int)) = false := decide_eq_false (by omega)
    go_enter Try.func6, Try.ntmps6
    go_wp2
    go_loopw [5, 6] (fun t i wr => ∃ k T n : Nat, k ≤ len ∧ i = .int .i64 k ∧ t = .int .i64 T ∧ T ≤ 1048576 ∧ 32 * k ≤ T ∧ wr = w.drewN n) (fun _ i _ => len - (intOf i).toNat)
    case atStart => exact ⟨0, x, 0, Nat.zero_le _, rfl, rfl, by omega, by omega, rfl⟩
    case round =>
      obtain ⟨k, T, n, hk, rfl, rfl, hT1, hT2, rfl⟩ := hrel
      by_cases hlt : k < len
      · obtain ⟨b, off, rfl, _, hc⟩ := HR.out.cells (by omega)
        obtain ⟨hc1, hc2⟩ := hc k hlt
        have s1 := HK.out k hlt
        have s2 := HV.out k hlt
        clear hc
        generalize ks[k]?.getD E0 = s at *
        generalize vs[k]?.getD E0 = v at *
        have hki : (k : Int) < (len : Int) := by omega
        by_cases hb2 : 1048576 < T + (32 + s.size + v.size)
        · have hbi2 : (1048576 : Int) < (T : Int) + (32 + (s.size : Int) + (v.size : Int)) := by omega
          go_wp2
          go_quiet (fail)
          go_wp2
          go_ret
          exact ⟨true, rfl, by simp, _, rfl⟩
        · have hbi2 : decide ((1048576 : Int) < (T : Int) + (32 + (s.size : Int) + (v.size : Int))) = false := decide_eq_false (by omega)
          go_wp2
          go_quiet (fail)
          go_wp2
          go_roundw
          case rel => exact ⟨k + 1, T + (32 + s.size + v.size), _, by omega, by go_num, by go_num, by omega, by omega, rfl⟩
          case measure => simp [intOf]; omega
      · go_wp2
        go_ret
        exact ⟨false, rfl, fun _ => by omega, _, rfl⟩

end Go.Proofs.Qxb6629191a
