/-
  Seat b6629191a: the walk of 'zzSeam'.
-/
import Derived.Test.Qxb6629191aSigners
namespace Go.Proofs.Qxb6629191a
open Go.RowKit Sg

/-- is the second part's first element left out? -/
def rep (a b : List ByteArray) : Bool := decide (0 < a.length ∧ 0 < b.length ∧ a.getLast? = b.head?)

theorem seam_drop (a b : List ByteArray) : seam a b = a ++ b.drop (if rep a b then 1 else 0) := by
  unfold seam rep
  cases a with
  | nil => cases b <;> simp
  | cons x a =>
    cases b with
    | nil => simp
    | cons y b => by_cases h : (x :: a).getLast? = (y :: b).head? <;> simp_all

theorem drop_take_succ (b : List ByteArray) (st k : Nat) (h1 : st ≤ k) (h2 : k < b.length) : (b.take (k + 1)).drop st = (b.take k).drop st ++ [b[k]?.getD E0] := by
  rw [List.take_add_one, List.drop_append_of_le_length (by rw [List.length_take]; omega), List.getElem?_eq_getElem h2]
  rfl

theorem take_succ0 (b : List ByteArray) (k : Nat) (h2 : k < b.length) : b.take (k + 1) = b.take k ++ [b[k]?.getD E0] := by
  rw [List.take_add_one, List.getElem?_eq_getElem h2]
  rfl

theorem head_at (xs : List ByteArray) (hx : 0 < xs.length) : xs.head? = some (xs[0]?.getD E0) := by
  cases xs with
  | nil => simp at hx
  | cons x xs => simp

theorem ss_some {w : World} {B : Nat} {a : Option Addr} {m cap : Nat} {ks : List ByteArray} (h : Ss w B a (m + 1) cap ks) : ∃ b off, a = some ⟨b, off, none⟩ ∧ b < B ∧ w.cell? ⟨b, off + m, none⟩ = some (.string (ks[m]?.getD E0)) ∧ w.cell? ⟨b, off, none⟩ = some (.string (ks[0]?.getD E0)) := by
  obtain ⟨b, off, ha, hb, hc⟩ := h.cells (by omega)
  exact ⟨b, off, ha, hb, hc m (by omega), hc 0 (by omega)⟩

theorem start_0 (z1 z2 : List ByteArray) : z1 ++ (z2.take 0).drop 0 = z1 := by simp
theorem start_1 (z1 z2 : List ByteArray) : z1 ++ (z2.take 1).drop 1 = z1 := by cases z2 <;> simp

set_option maxHeartbeats 1000000 in
set_option maxRecDepth 100000 in
theorem seam_any (a1 : Option Addr) (l1 c1 : Nat) (a2 : Option Addr) (l2 c2 : Nat) (z1 z2 : List ByteArray) (w : World)
    (h1 : Ss w w.heap.size a1 l1 c1 z1) (h2 : Ss w w.heap.size a2 l2 c2 z2) (hm1 : l1 ≤ 1073741824) (hm2 : l2 ≤ 1073741824) :
    Calls Try.prog 10 #[.slice a1 l1 c1, .slice a2 l2 c2] w fun e w' => ∃ v, e = .returned v ∧ Ow w' w.heap.size v (seam z1 z2) ∧ Below w.heap.size w w' := by
  obtain ⟨i0, hi, hz0, hz1, hz2⟩ := info_parts Try.info9
  have HR1 : Hid (Ss w w.heap.size a1 l1 c1 z1) := h1
  have HR2 : Hid (Ss w w.heap.size a2 l2 c2 z2) := h2
  clear h1 h2
  have hw1 : IntKind.i64.wrap ((l1 : Int) + (l2 : Int)) = (l1 : Int) + (l2 : Int) := wrap_small _ (by omega) (by omega)
  go_enter Try.func10, Try.ntmps10
  go_wp2_with (at_make; refine wpList_make_own _ rfl _ _ 27 rfl w.heap.size 9 i0 (.string ⟨#[]⟩) 1 Try.underlying27 hi hz0 hz1 _ _ _ (l1 + l2) rfl rfl ?b1 ?b2 ?b3 ?b4 ?_)
  case b1 => go_num
  case b2 => rw [hz2]; omega
  case b3 => unfold maxLen; omega
  case b4 => exact Nat.le_refl _
  intro w1 hown1 hgrow1
  have hb1 : Below w.heap.size w w1 := (Below.refl _ _).grown hgrow1 (Nat.le_refl _) (fun k h => by cases h)
  have HF : Hid (Ow w1 w.heap.size (.slice (some ⟨w.heap.size, 0, none⟩) 0 (l1 + l2)) (z1.take 0)) := by show Ow _ _ _ _; rw [List.take_zero]; exact hown1
  clear hown1 hgrow1
  go_wp2
  go_loopw [5, 6] (fun u i wr => ∃ k : Nat, k ≤ l1 ∧ i = .int .i64 k ∧ Hid (Ow wr w.heap.size u (z1.take k)) ∧ Below w.heap.size w wr) (fun _ i _ => l1 - (intOf i).toNat)
  case atStart => exact ⟨0, Nat.zero_le _, rfl, HF, hb1⟩
  case round =>
    obtain ⟨k, hk, rfl, hown, hnx⟩ := hrel
    clear HF hb1
    have hsz := hnx.size
    by_cases hlt : k < l1
    · obtain ⟨b, off, rfl, hb, hc⟩ := HR1.out.cells (by omega)
      have hcs : wr.cell? ⟨b, off + k, none⟩ = some (.string (z1[k]?.getD E0)) := (hnx.cell (p := ⟨b, off + k, none⟩) hb).trans (hc k hlt)
      have HST : Hid (z1.take (k + 1) = z1.take k ++ [z1[k]?.getD E0]) := take_succ0 z1 k (by rw [HR1.out.size]; exact hlt)
      have hXl : (z1.take k).length ≤ k := List.length_take_le _ _
      have hki : (k : Int) < (l1 : Int) := by omega
      clear hc
      generalize z1[k]?.getD E0 = s at *
      generalize z1.take k = X at *
      go_wp2_with (at_builtin; refine wpList_append_own _ rfl _ _ 27 rfl w.heap.size 9 i0 (.string ⟨#[]⟩) 1 16 Try.underlying27 hi hz0 hz1 hz2 rfl (by decide) _ _ _ rfl (World.ownsRow.alloc hown.out _) ⟨wr.heap.size, 0, none⟩ 1 1 [.string s] rfl rfl (cell_one_new _ _ _) (by simp [Value.oneCell']) (by unfold maxLen; omega) (by omega) (by simp; omega) ?_; intro v' w3 hown3 hgrow3 _; have R := ow_snoc hnx (by omega) hown.out hown3 hgrow3; clear hown3 hgrow3)
      have R1 : Hid (Ow w3 w.heap.size v' (z1.take (k + 1))) := by rw [HST.out]; exact R.1
      have R3 := R.2
      clear R
      go_wp2
      go_roundw
      case rel => exact ⟨k + 1, by omega, by go_num, R1, R3⟩
      case measure => simp [intOf]; omega
    · obtain rfl : k = l1 := by omega
      rw [List.take_of_length_le (by rw [HR1.out.size]; exact Nat.le_refl _)] at hown
      go_wp2_with fail
      go_cut [47] (fun t ws => t = .bool (rep z1 z2) ∧ Hid (Ow ws w.heap.size u5 z1) ∧ Below w.heap.size w ws)
      case first =>
        rcases Nat.eq_zero_or_pos k with hk0 | hk0
        · subst hk0
          have HA : Hid (rep z1 z2 = false) := by show _ = _; have h := HR1.out.size; simp [rep, h]
          go_quiet (fail)
          go_wp2_with fail
          go_meet
          case rel => exact ⟨by rw [HA.out], hown, below_draw hnx nq⟩
        · obtain ⟨m1, rfl⟩ : ∃ m, k = m + 1 := ⟨k - 1, by omega⟩
          obtain ⟨b1, o1, rfl, hbb1, hc1, -⟩ := ss_some HR1.out
          have HL : Hid (z1.getLast? = some (z1[m1]?.getD E0)) := by have h := last_at z1 (by rw [HR1.out.size]; omega); rw [HR1.out.size] at h; exact h
          rw [← hnx.cell (p := ⟨b1, o1 + m1, none⟩) hbb1] at hc1
          generalize z1[m1]?.getD E0 = L at *
          have hwm : IntKind.i64.wrap (m1 : Int) = (m1 : Int) := wrap_small _ (by omega) (by omega)
          have hg1 : decide ((0 : Int) < (m1 : Int) + 1) = true := by rw [decide_eq_true_eq]; omega
          rcases Nat.eq_zero_or_pos l2 with hl0 | hl0
          · subst hl0
            have HA : Hid (rep z1 z2 = false) := by show _ = _; have h := HR2.out.size; simp [rep, h]
            go_quiet (fail)
            go_wp2_with fail
            go_meet
            case rel => exact ⟨by rw [HA.out], hown, below_draw hnx nq⟩
          · obtain ⟨m2, rfl⟩ : ∃ m, l2 = m + 1 := ⟨l2 - 1, by omega⟩
            obtain ⟨b2, o2, rfl, hbb2, -, hc2⟩ := ss_some HR2.out
            have HH : Hid (z2.head? = some (z2[0]?.getD E0)) := head_at z2 (by rw [HR2.out.size]; omega)
            rw [← hnx.cell (p := ⟨b2, o2, none⟩) hbb2] at hc2
            generalize z2[0]?.getD E0 = F at *
            have hg2 : decide ((0 : Int) < (m2 : Int) + 1) = true := by rw [decide_eq_true_eq]; omega
            have HA : Hid (rep z1 z2 = (L.toList == F.toList)) := by
              show _ = _
              unfold rep
              rw [HR1.out.size, HR2.out.size, HL.out, HH.out]
              by_cases h : L = F
              · subst h; simp
              · have h2 := toList_ne h
                simp at h2
                simp [h, h2]
            go_quiet (fail)
            go_wp2_with fail
            go_meet
            case rel => exact ⟨by rw [HA.out], hown, below_draw hnx nq⟩
      case rest =>
        obtain ⟨rfl, hown2, hnx2⟩ := hcut
        clear hown hnx hsz
        cases hrp : rep z1 z2 with
        | true =>
          have HST0 : Hid (seam z1 z2 = z1 ++ z2.drop 1) := by have h := seam_drop z1 z2; rw [hrp] at h; exact h
          have hl2 : 0 < l2 := by rw [← HR2.out.size]; have h := hrp; unfold rep at h; rw [decide_eq_true_eq] at h; exact h.2.1
          clear hrp
          go_wp2
          go_loopw [5, 8] (fun u i wr => ∃ k : Nat, 1 ≤ k ∧ k ≤ l2 ∧ i = .int .i64 k ∧ Hid (Ow wr w.heap.size u (z1 ++ (z2.take k).drop 1)) ∧ Below w.heap.size w wr) (fun _ i _ => l2 - (intOf i).toNat)
          case atStart => exact ⟨1, Nat.le_refl _, hl2, rfl, by show Ow _ _ _ _; rw [start_1]; exact hown2, hnx2⟩
          case round =>
            obtain ⟨j, hj0, hj, rfl, hown, hnx⟩ := hrel
            clear hown2 hnx2
            have hsz := hnx.size
            by_cases hlt : j < l2
            · obtain ⟨b, off, rfl, hb, hc⟩ := HR2.out.cells (by omega)
              have hcs : wr.cell? ⟨b, off + j, none⟩ = some (.string (z2[j]?.getD E0)) := (hnx.cell (p := ⟨b, off + j, none⟩) hb).trans (hc j hlt)
              have HST : Hid (z1 ++ (z2.take (j + 1)).drop 1 = (z1 ++ (z2.take j).drop 1) ++ [z2[j]?.getD E0]) := by show _ = _; rw [drop_take_succ z2 1 j hj0 (by rw [HR2.out.size]; exact hlt), List.append_assoc]
              have hXl : (z1 ++ (z2.take j).drop 1).length ≤ k + j := by rw [List.length_append, HR1.out.size, List.length_drop, List.length_take]; omega
              have hki : (j : Int) < (l2 : Int) := by omega
              clear hc
              generalize z2[j]?.getD E0 = s at *
              generalize z1 ++ (z2.take j).drop 1 = X at *
              go_wp2_with (at_builtin; refine wpList_append_own _ rfl _ _ 27 rfl w.heap.size 9 i0 (.string ⟨#[]⟩) 1 16 Try.underlying27 hi hz0 hz1 hz2 rfl (by decide) _ _ _ rfl (World.ownsRow.alloc hown.out _) ⟨wr.heap.size, 0, none⟩ 1 1 [.string s] rfl rfl (cell_one_new _ _ _) (by simp [Value.oneCell']) (by unfold maxLen; omega) (by omega) (by simp; omega) ?_; intro v' w3 hown3 hgrow3 _; have R := ow_snoc hnx (by omega) hown.out hown3 hgrow3; clear hown3 hgrow3)
              have R1 : Hid (Ow w3 w.heap.size v' (z1 ++ (z2.take (j + 1)).drop 1)) := by rw [HST.out]; exact R.1
              have R3 := R.2
              clear R
              go_wp2
              go_roundw
              case rel => exact ⟨j + 1, by omega, by omega, by go_num, R1, R3⟩
              case measure => simp [intOf]; omega
            · obtain rfl : j = l2 := by omega
              rw [List.take_of_length_le (by rw [HR2.out.size]; exact Nat.le_refl _), ← HST0.out] at hown
              go_wp2
              go_ret
              exact ⟨_, rfl, hown.out, hnx⟩
        | false =>
          have HST0 : Hid (seam z1 z2 = z1 ++ z2.drop 0) := by have h := seam_drop z1 z2; rw [hrp] at h; exact h

          clear hrp
          go_wp2
          go_loopw [5, 8] (fun u i wr => ∃ k : Nat, 0 ≤ k ∧ k ≤ l2 ∧ i = .int .i64 k ∧ Hid (Ow wr w.heap.size u (z1 ++ (z2.take k).drop 0)) ∧ Below w.heap.size w wr) (fun _ i _ => l2 - (intOf i).toNat)
          case atStart => exact ⟨0, Nat.le_refl _, Nat.zero_le _, rfl, by show Ow _ _ _ _; rw [start_0]; exact hown2, hnx2⟩
          case round =>
            obtain ⟨j, hj0, hj, rfl, hown, hnx⟩ := hrel
            clear hown2 hnx2
            have hsz := hnx.size
            by_cases hlt : j < l2
            · obtain ⟨b, off, rfl, hb, hc⟩ := HR2.out.cells (by omega)
              have hcs : wr.cell? ⟨b, off + j, none⟩ = some (.string (z2[j]?.getD E0)) := (hnx.cell (p := ⟨b, off + j, none⟩) hb).trans (hc j hlt)
              have HST : Hid (z1 ++ (z2.take (j + 1)).drop 0 = (z1 ++ (z2.take j).drop 0) ++ [z2[j]?.getD E0]) := by show _ = _; rw [drop_take_succ z2 0 j hj0 (by rw [HR2.out.size]; exact hlt), List.append_assoc]
              have hXl : (z1 ++ (z2.take j).drop 0).length ≤ k + j := by rw [List.length_append, HR1.out.size, List.length_drop, List.length_take]; omega
              have hki : (j : Int) < (l2 : Int) := by omega
              clear hc
              generalize z2[j]?.getD E0 = s at *
              generalize z1 ++ (z2.take j).drop 0 = X at *
              go_wp2_with (at_builtin; refine wpList_append_own _ rfl _ _ 27 rfl w.heap.size 9 i0 (.string ⟨#[]⟩) 1 16 Try.underlying27 hi hz0 hz1 hz2 rfl (by decide) _ _ _ rfl (World.ownsRow.alloc hown.out _) ⟨wr.heap.size, 0, none⟩ 1 1 [.string s] rfl rfl (cell_one_new _ _ _) (by simp [Value.oneCell']) (by unfold maxLen; omega) (by omega) (by simp; omega) ?_; intro v' w3 hown3 hgrow3 _; have R := ow_snoc hnx (by omega) hown.out hown3 hgrow3; clear hown3 hgrow3)
              have R1 : Hid (Ow w3 w.heap.size v' (z1 ++ (z2.take (j + 1)).drop 0)) := by rw [HST.out]; exact R.1
              have R3 := R.2
              clear R
              go_wp2
              go_roundw
              case rel => exact ⟨j + 1, by omega, by omega, by go_num, R1, R3⟩
              case measure => simp [intOf]; omega
            · obtain rfl : j = l2 := by omega
              rw [List.take_of_length_le (by rw [HR2.out.size]; exact Nat.le_refl _), ← HST0.out] at hown
              go_wp2
              go_ret
              exact ⟨_, rfl, hown.out, hnx⟩

end Go.Proofs.Qxb6629191a
