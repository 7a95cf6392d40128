/-
  Seat b6629160aF: the walk of 'FnPeekTwiceAnswersSameAndRefusesExactly', whatever fmt's texts.
-/
import Derived.Test.Qxb6629160aFmtPeek
import Derived.Test.Qxb6629160aFmtSmall
namespace Go.Proofs.Qxb6629160aFmt
open Go.RowKit Go.Extern.Stop Go.Stop Go.Extern Js

theorem next_again {zs : List Int} {p j : Nat} (h : NextIs zs p j) : NextIs zs j j := ⟨Nat.le_refl _, h.le, fun i h1 h2 => by omega, h.stop⟩

/-- a new Reader, and what is read below it -/
theorem rdr_new (w : World) (D S : Value) (p dep : Int) (mis : Bool) : RdrAt (w.alloc (.cells #[D, .int .i64 p, .int .i64 dep, .bool mis, S] 39)) w.heap.size D p dep mis S := heap_alloc_new w _

set_option maxHeartbeats 8000000 in
set_option maxRecDepth 100000 in
theorem twice_walk (F : Interp) (a1 : Option Addr) (l1 c1 : Nat) (z1 : List Int) (pos dep : Int) (mis : Bool) (a2 : Option Addr) (l2 c2 : Nat) (z2 : List Int) (w : World) (hF : F.answers w.tape) (h1 : RdN w a1 l1 c1 z1) (h2 : RdN w a2 l2 c2 z2) :
    Calls Tryf.prog 4 #[.slice a1 l1 c1, .int .i64 pos, .int .i64 dep, .bool mis, .slice a2 l2 c2] w fun e w' => e = .returned (.bool true) ∧ Below w.heap.size w w' := by
  by_cases g1 : l1 ≤ 1048576
  rotate_left
  · clear h1 h2
    have g : (1048576 : Int) < (l1 : Int) := by omega
    clear g1
    go_enter Tryf.func4, Tryf.ntmps4
    go_wp2_with fail
    refine (bytes_twice _ _ _ _ _ _ _ _ _ _).mono ?_
    rintro e w' ⟨r, rfl, rfl⟩
    cases r
    all_goals
      go_wp2
      go_ret
      exact ⟨rfl, Below.refl _ _⟩
  by_cases g2 : l2 ≤ 1048576
  rotate_left
  · clear h1 h2
    have g : (1048576 : Int) < (l2 : Int) := by omega
    clear g2
    go_enter Tryf.func4, Tryf.ntmps4
    go_wp2_with fail
    refine (bytes_twice _ _ _ _ _ _ _ _ _ _).mono ?_
    rintro e w' ⟨r, rfl, rfl⟩
    cases r
    all_goals
      go_wp2
      go_ret
      exact ⟨rfl, Below.refl _ _⟩
  by_cases g3 : l1 + l2 ≤ 1048576
  rotate_left
  · clear h1 h2
    have g : (1048576 : Int) < (l1 : Int) + (l2 : Int) := by omega
    clear g3
    go_enter Tryf.func4, Tryf.ntmps4
    go_wp2_with fail
    refine (bytes_twice _ _ _ _ _ _ _ _ _ _).mono ?_
    rintro e w' ⟨r, rfl, rfl⟩
    cases r
    all_goals
      go_wp2
      go_ret
      exact ⟨rfl, Below.refl _ _⟩
  by_cases g4 : 0 ≤ pos
  rotate_left
  · clear h1 h2
    have g : pos < 0 := by omega
    clear g4
    go_enter Tryf.func4, Tryf.ntmps4
    go_wp2_with fail
    refine (bytes_twice _ _ _ _ _ _ _ _ _ _).mono ?_
    rintro e w' ⟨r, rfl, rfl⟩
    cases r
    all_goals
      go_wp2
      go_ret
      exact ⟨rfl, Below.refl _ _⟩
  by_cases g5 : pos ≤ (l1 : Int)
  rotate_left
  · clear h1 h2
    have g : (l1 : Int) < pos := by omega
    clear g5
    go_enter Tryf.func4, Tryf.ntmps4
    go_wp2_with fail
    refine (bytes_twice _ _ _ _ _ _ _ _ _ _).mono ?_
    rintro e w' ⟨r, rfl, rfl⟩
    cases r
    all_goals
      go_wp2
      go_ret
      exact ⟨rfl, Below.refl _ _⟩
  by_cases g6 : 0 ≤ dep
  rotate_left
  · clear h1 h2
    have g : dep < 0 := by omega
    clear g6
    go_enter Tryf.func4, Tryf.ntmps4
    go_wp2_with fail
    refine (bytes_twice _ _ _ _ _ _ _ _ _ _).mono ?_
    rintro e w' ⟨r, rfl, rfl⟩
    cases r
    all_goals
      go_wp2
      go_ret
      exact ⟨rfl, Below.refl _ _⟩
  obtain ⟨p, rfl⟩ := Int.eq_ofNat_of_zero_le g4
  have hpl : p ≤ l1 := by omega
  obtain ⟨j, hj⟩ := next_of z1 p (by rw [h1.size]; exact hpl)
  have hjl : j ≤ l1 := by have := hj.le; have := h1.size; omega
  have hpj : p ≤ j := hj.ge
  have HJ : Hid (NextIs z1 p j) := hj
  have HL1 : Hid (z1.length = l1) := h1.size
  have H1 : Hid (RdN w a1 l1 c1 z1) := h1
  have H2 : Hid (RdN w a2 l2 c2 z2) := h2
  have HF : Hid (F.answers w.tape) := hF
  clear h1 h2 hj hF
  go_enter Tryf.func4, Tryf.ntmps4
  go_wp2_with fail
  refine (bytes_twice _ _ _ _ _ _ _ _ _ _).mono ?_
  rintro e w' ⟨r, rfl, rfl⟩
  cases r
  · go_wp2
    go_ret
    exact ⟨rfl, Below.refl _ _⟩
  go_wp2_with fail
  refine (clone_any a1 l1 c1 z1 w H1.out (by omega)).mono ?_
  rintro e w1 ⟨dA, dC, rfl, hd, _, hb1⟩
  have D1 : Hid (RdN w1 dA l1 dC z1) := hd
  have S1 : Hid (RdN w1 a2 l2 c2 z2) := RdN.step H2.out hb1 (Nat.le_refl _)
  have s1 := hb1.size
  clear hd
  go_wp2_with fail
  refine (clone_any a2 l2 c2 z2 w1 S1.out (by omega)).mono ?_
  rintro e w2 ⟨sA, sC, rfl, hs, _, hb2⟩
  have D2 : Hid (RdN w2 dA l1 dC z1) := RdN.step D1.out hb2 (Nat.le_refl _)
  have S2 : Hid (RdN w2 sA l2 sC z2) := hs
  have hbb2 : Below w.heap.size w w2 := hb1.trans (hb2.mono s1)
  have s2 := hbb2.size
  clear hs hb2 hb1 D1 S1
  go_wp2_with fail
  refine (clone_any dA l1 dC z1 w2 D2.out (by omega)).mono ?_
  rintro e w3 ⟨oA, oC, rfl, ho, hno, hb3⟩
  have D3 : Hid (RdN w3 dA l1 dC z1) := RdN.step D2.out hb3 (Nat.le_refl _)
  have S3 : Hid (RdN w3 sA l2 sC z2) := RdN.step S2.out hb3 (Nat.le_refl _)
  have O3 : Hid (RdN w3 oA l1 oC z1) := ho
  have NO : Hid (oA = none ↔ dA = none) := hno
  have hbb3 : Below w.heap.size w w3 := hbb2.trans (hb3.mono s2)
  have s3 := hbb3.size
  clear ho hno hb3 hbb2 D2 S2
  go_wp2_with fail
  refine (clone_any sA l2 sC z2 w3 S3.out (by omega)).mono ?_
  rintro e w4 ⟨pA, pC, rfl, hp4, hnp, hb4⟩
  have D4 : Hid (RdN w4 dA l1 dC z1) := RdN.step D3.out hb4 (Nat.le_refl _)
  have S4 : Hid (RdN w4 sA l2 sC z2) := RdN.step S3.out hb4 (Nat.le_refl _)
  have O4 : Hid (RdN w4 oA l1 oC z1) := RdN.step O3.out hb4 (Nat.le_refl _)
  have P4 : Hid (RdN w4 pA l2 pC z2) := hp4
  have NP : Hid (pA = none ↔ sA = none) := hnp
  have hbb4 : Below w.heap.size w w4 := hbb3.trans (hb4.mono s3)
  have s4 := hbb4.size
  have HF4 : Hid (F.answers w4.tape) := by show F.answers w4.tape; rw [hbb4.tape]; exact HF.out
  clear hp4 hnp hb4 hbb3 D3 S3 O3 H1 H2 HF
  go_wp2_with fail
  by_cases hcase : j < l1
  · -- THE TEXT GOES ON AT j
    obtain ⟨ob, oo, rfl, _, oc⟩ := O4.out.cells (by omega)
    have HO : Hid (∀ i, i < l1 → w4.cell? ⟨ob, oo + i, none⟩ = some (.int .u8 (z1[i]?.getD 0))) := oc
    clear oc
    have HSJ : Hid (isSp (z1[j]?.getD 0) = false) := HJ.out.stop (by have := HL1.out; omega)
    go_loopw [13, 14] (fun t i wr => ∃ k : Nat, p ≤ k ∧ k ≤ j ∧ i = .int .i64 k ∧ t = .bool true ∧ w4 = wr) (fun _ i _ => l1 - (intOf i).toNat)
    case atStart => exact ⟨p, Nat.le_refl _, hpj, rfl, rfl, rfl⟩
    case round =>
      obtain ⟨k, hk1, hk2, rfl, rfl, rfl⟩ := hrel
      have hcell := HO.out k (by omega)
      by_cases hkj : k < j
      · have HS : Hid (isSp (z1[k]?.getD 0) = true) := HJ.out.blank k hk1 hkj
        generalize z1[k]?.getD 0 = c at *
        go_wp2_with (go_at_call 6; refine (sp_yes _ _ HS.out).mono ?_; rintro e w' ⟨rfl, rfl⟩)
        go_roundw
        case rel => exact ⟨k + 1, by omega, by omega, by go_num, rfl, by trivial⟩
        case measure => simp [intOf]; omega
      · have hkj2 : k = j := by omega
        subst hkj2
        go_wp2_with (go_at_call 6; refine (sp_no _ _ HSJ.out).mono ?_; rintro e w' ⟨rfl, rfl⟩)
        refine (next_any (some ⟨ob, oo, none⟩) l1 oC z1 p k w4 O4.out HJ.out (by omega)).mono ?_
        rintro e w5 ⟨rfl, rfl⟩
        by_cases hc : z1[k]?.getD 0 = 0
        · have HC : Hid (z1[k]?.getD 0 = 0) := hc
          rw [hc] at hcell
          clear hc
          go_wp2_with fail
          refine (new_any _ _ _ _ _ _ dA sA l1 dC l2 sC rfl rfl).mono ?_
          rintro e w5 ⟨rfl, hw5⟩
          have RG : Hid (RdrAt w5 w4.heap.size (.slice dA l1 dC) p dep mis (.slice sA l2 sC)) := by rw [hw5]; exact rdr_new _ _ _ _ _ _
          have hb5 : Below w4.heap.size w4 w5 := by rw [hw5]; exact (Below.refl _ _).alloc (Nat.le_refl _) _
          have g5s := RG.out.lt
          clear hw5
          have HF5 : Hid (F.answers w5.tape) := by show F.answers w5.tape; rw [hb5.tape]; exact HF4.out
          go_wp2_with fail
          refine (Peek_no F w4.heap.size dA l1 dC z1 p k dep mis (.slice sA l2 sC) w5 HF5.out RG.out (Rd.later D4.out hb5) HJ.out (by omega) HC.out).mono ?_
          rintro e w6 ⟨x1, rfl, hr6, hg6⟩
          have R6 : Hid (RdrAt w6 w4.heap.size (.slice dA l1 dC) k dep mis (.slice sA l2 sC)) := hr6
          have HF6 : Hid (F.answers w6.tape) := by show F.answers w6.tape; rw [hg6.tape]; exact HF5.out
          clear hr6
          go_wp2_with fail
          refine (pos_any w4.heap.size _ _ _ _ _ w6 R6.out).mono ?_
          rintro e w7 ⟨rfl, rfl⟩
          go_wp2_with fail
          refine (Peek_no F w4.heap.size dA l1 dC z1 k k dep mis (.slice sA l2 sC) w6 HF6.out R6.out (Rd.later D4.out (hb5.trans (grown_below hg6 (by omega)))) (next_again HJ.out) (by omega) HC.out).mono ?_
          rintro e w7 ⟨x2, rfl, hr7, hg7⟩
          have R7 : Hid (RdrAt w7 w4.heap.size (.slice dA l1 dC) k dep mis (.slice sA l2 sC)) := hr7
          clear hr7
          have hb7 : Below w4.heap.size w4 w7 := hb5.trans ((grown_below hg6 (by omega)).trans (grown_below hg7 (by have := hg6.size; omega)))
          have D7 : Hid (RdN w7 dA l1 dC z1) := RdN.step D4.out hb7 (Nat.le_refl _)
          have S7 : Hid (RdN w7 sA l2 sC z2) := RdN.step S4.out hb7 (Nat.le_refl _)
          have O7 : Hid (RdN w7 (some ⟨ob, oo, none⟩) l1 oC z1) := RdN.step O4.out hb7 (Nat.le_refl _)
          have P7 : Hid (RdN w7 pA l2 pC z2) := RdN.step P4.out hb7 (Nat.le_refl _)
          have hbF : Below w.heap.size w w7 := hbb4.trans (hb7.mono s4)
          clear D4 S4 O4 P4 hb7 hb5 hg6 hg7 R6 RG
          go_wp2_with fail
          refine (pos_any w4.heap.size _ _ _ _ _ w7 R7.out).mono ?_
          rintro e w8 ⟨rfl, rfl⟩
          go_wp2_with fail
          go_quiet (fail)
          go_wp2_with fail
          refine (depth_any w4.heap.size _ _ _ _ _ _ (R7.out.draw nq)).mono ?_
          rintro e w8 ⟨rfl, rfl⟩
          have hdd : (dep != dep) = false := by simp
          have hmm : (mis != mis) = false := by simp
          go_wp2_with fail
          refine (mis_any w4.heap.size _ _ _ _ _ _ (R7.out.draw nq)).mono ?_
          rintro e w8 ⟨rfl, rfl⟩
          go_wp2_with fail
          refine (data_any w4.heap.size _ _ _ _ _ _ (R7.out.draw nq)).mono ?_
          rintro e w8 ⟨rfl, rfl⟩
          go_wp2_with fail
          refine (same_yes dA l1 dC z1 (some ⟨ob, oo, none⟩) l1 oC z1 _ (D7.out.draw nq) (O7.out.draw nq) (by omega) rfl NO.out.symm).mono ?_
          rintro e w8 ⟨rfl, n8, rfl⟩
          go_wp2_with fail
          refine (scratch_any w4.heap.size _ _ _ _ _ _ (R7.out.draw (nq + n8))).mono ?_
          rintro e w8 ⟨rfl, rfl⟩
          go_wp2_with fail
          refine (same_yes sA l2 sC z2 pA l2 pC z2 _ (S7.out.draw (nq + n8)) (P7.out.draw (nq + n8)) (by omega) rfl NP.out.symm).mono ?_
          rintro e w9 ⟨rfl, n9, rfl⟩
          go_wp2
          go_ret
          exact ⟨rfl, below_draw hbF _⟩
        · have HC : Hid (z1[k]?.getD 0 ≠ 0) := hc
          have hcz : (z1[k]?.getD 0 == 0) = false := by simpa using hc
          clear hc
          go_wp2_with fail
          refine (new_any _ _ _ _ _ _ dA sA l1 dC l2 sC rfl rfl).mono ?_
          rintro e w5 ⟨rfl, hw5⟩
          have RG : Hid (RdrAt w5 w4.heap.size (.slice dA l1 dC) p dep mis (.slice sA l2 sC)) := by rw [hw5]; exact rdr_new _ _ _ _ _ _
          have hb5 : Below w4.heap.size w4 w5 := by rw [hw5]; exact (Below.refl _ _).alloc (Nat.le_refl _) _
          have g5s := RG.out.lt
          clear hw5
          go_wp2_with fail
          refine (Peek_yes w4.heap.size dA l1 dC z1 p k dep mis (.slice sA l2 sC) w5 RG.out (Rd.later D4.out hb5) HJ.out (by omega) HC.out).mono ?_
          rintro e w6 ⟨rfl, hr6, hg6⟩
          have R6 : Hid (RdrAt w6 w4.heap.size (.slice dA l1 dC) p dep mis (.slice sA l2 sC)) := hr6
          clear hr6
          go_wp2_with fail
          refine (pos_any w4.heap.size _ _ _ _ _ w6 R6.out).mono ?_
          rintro e w7 ⟨rfl, rfl⟩
          go_wp2_with fail
          refine (Peek_yes w4.heap.size dA l1 dC z1 p k dep mis (.slice sA l2 sC) w6 R6.out (Rd.later D4.out (hb5.trans (grown_below hg6 (by omega)))) HJ.out (by omega) HC.out).mono ?_
          rintro e w7 ⟨rfl, hr7, hg7⟩
          have R7 : Hid (RdrAt w7 w4.heap.size (.slice dA l1 dC) p dep mis (.slice sA l2 sC)) := hr7
          clear hr7
          have hb7 : Below w4.heap.size w4 w7 := hb5.trans ((grown_below hg6 (by omega)).trans (grown_below hg7 (by have := hg6.size; omega)))
          have D7 : Hid (RdN w7 dA l1 dC z1) := RdN.step D4.out hb7 (Nat.le_refl _)
          have S7 : Hid (RdN w7 sA l2 sC z2) := RdN.step S4.out hb7 (Nat.le_refl _)
          have O7 : Hid (RdN w7 (some ⟨ob, oo, none⟩) l1 oC z1) := RdN.step O4.out hb7 (Nat.le_refl _)
          have P7 : Hid (RdN w7 pA l2 pC z2) := RdN.step P4.out hb7 (Nat.le_refl _)
          have hbF : Below w.heap.size w w7 := hbb4.trans (hb7.mono s4)
          clear D4 S4 O4 P4 hb7 hb5 hg6 hg7 R6 RG
          go_wp2_with fail
          refine (pos_any w4.heap.size _ _ _ _ _ w7 R7.out).mono ?_
          rintro e w8 ⟨rfl, rfl⟩
          generalize z1[k]?.getD 0 = c at *
          have hcc : (c != c) = false := by simp
          have hc0 : (c == 0) = false := by have := HC.out; simpa using this
          have hpp : ((p : Int) != (p : Int)) = false := by simp
          go_wp2_with fail
          refine (sp_no c _ HSJ.out).mono ?_
          rintro e w8 ⟨rfl, rfl⟩
          go_wp2_with fail
          go_quiet (fail)
          go_wp2_with fail
          refine (depth_any w4.heap.size _ _ _ _ _ _ (R7.out.draw nq)).mono ?_
          rintro e w8 ⟨rfl, rfl⟩
          have hdd : (dep != dep) = false := by simp
          have hmm : (mis != mis) = false := by simp
          go_wp2_with fail
          refine (mis_any w4.heap.size _ _ _ _ _ _ (R7.out.draw nq)).mono ?_
          rintro e w8 ⟨rfl, rfl⟩
          go_wp2_with fail
          refine (data_any w4.heap.size _ _ _ _ _ _ (R7.out.draw nq)).mono ?_
          rintro e w8 ⟨rfl, rfl⟩
          go_wp2_with fail
          refine (same_yes dA l1 dC z1 (some ⟨ob, oo, none⟩) l1 oC z1 _ (D7.out.draw nq) (O7.out.draw nq) (by omega) rfl NO.out.symm).mono ?_
          rintro e w8 ⟨rfl, n8, rfl⟩
          go_wp2_with fail
          refine (scratch_any w4.heap.size _ _ _ _ _ _ (R7.out.draw (nq + n8))).mono ?_
          rintro e w8 ⟨rfl, rfl⟩
          go_wp2_with fail
          refine (same_yes sA l2 sC z2 pA l2 pC z2 _ (S7.out.draw (nq + n8)) (P7.out.draw (nq + n8)) (by omega) rfl NP.out.symm).mono ?_
          rintro e w9 ⟨rfl, n9, rfl⟩
          go_wp2
          go_ret
          exact ⟨rfl, below_draw hbF _⟩
  · have hjl2 : j = l1 := by omega
    subst hjl2
    go_loopw [13, 14] (fun t i wr => ∃ k : Nat, p ≤ k ∧ k ≤ j ∧ i = .int .i64 k ∧ t = .bool true ∧ w4 = wr) (fun _ i _ => j - (intOf i).toNat)
    case atStart => exact ⟨p, Nat.le_refl _, hpj, rfl, rfl, rfl⟩
    case round =>
      obtain ⟨k, hk1, hk2, rfl, rfl, rfl⟩ := hrel
      by_cases hkj : k < j
      · obtain ⟨ob, oo, rfl, _, oc⟩ := O4.out.cells (by omega)
        have hcell := oc k hkj
        clear oc
        have HS : Hid (isSp (z1[k]?.getD 0) = true) := HJ.out.blank k hk1 hkj
        generalize z1[k]?.getD 0 = c at *
        go_wp2_with (go_at_call 6; refine (sp_yes _ _ HS.out).mono ?_; rintro e w' ⟨rfl, rfl⟩)
        go_roundw
        case rel => exact ⟨k + 1, by omega, by omega, by go_num, rfl, by trivial⟩
        case measure => simp [intOf]; omega
      · have hkj2 : k = j := by omega
        subst hkj2
        go_wp2_with fail
        have HC : Hid (z1[k]?.getD 0 = 0) := by show _ = _; rw [List.getElem?_eq_none (by have := HL1.out; omega)]; rfl
        refine (next_any oA k oC z1 p k w4 O4.out HJ.out (by omega)).mono ?_
        rintro e w5 ⟨rfl, rfl⟩
        go_wp2_with fail
        refine (new_any _ _ _ _ _ _ dA sA k dC l2 sC rfl rfl).mono ?_
        rintro e w5 ⟨rfl, hw5⟩
        have RG : Hid (RdrAt w5 w4.heap.size (.slice dA k dC) p dep mis (.slice sA l2 sC)) := by rw [hw5]; exact rdr_new _ _ _ _ _ _
        have hb5 : Below w4.heap.size w4 w5 := by rw [hw5]; exact (Below.refl _ _).alloc (Nat.le_refl _) _
        have g5s := RG.out.lt
        clear hw5
        have HF5 : Hid (F.answers w5.tape) := by show F.answers w5.tape; rw [hb5.tape]; exact HF4.out
        go_wp2_with fail
        refine (Peek_no F w4.heap.size dA k dC z1 p k dep mis (.slice sA l2 sC) w5 HF5.out RG.out (Rd.later D4.out hb5) HJ.out (by omega) HC.out).mono ?_
        rintro e w6 ⟨x1, rfl, hr6, hg6⟩
        have R6 : Hid (RdrAt w6 w4.heap.size (.slice dA k dC) k dep mis (.slice sA l2 sC)) := hr6
        have HF6 : Hid (F.answers w6.tape) := by show F.answers w6.tape; rw [hg6.tape]; exact HF5.out
        clear hr6
        go_wp2_with fail
        refine (pos_any w4.heap.size _ _ _ _ _ w6 R6.out).mono ?_
        rintro e w7 ⟨rfl, rfl⟩
        go_wp2_with fail
        refine (Peek_no F w4.heap.size dA k dC z1 k k dep mis (.slice sA l2 sC) w6 HF6.out R6.out (Rd.later D4.out (hb5.trans (grown_below hg6 (by omega)))) (next_again HJ.out) (by omega) HC.out).mono ?_
        rintro e w7 ⟨x2, rfl, hr7, hg7⟩
        have R7 : Hid (RdrAt w7 w4.heap.size (.slice dA k dC) k dep mis (.slice sA l2 sC)) := hr7
        clear hr7
        have hb7 : Below w4.heap.size w4 w7 := hb5.trans ((grown_below hg6 (by omega)).trans (grown_below hg7 (by have := hg6.size; omega)))
        have D7 : Hid (RdN w7 dA k dC z1) := RdN.step D4.out hb7 (Nat.le_refl _)
        have S7 : Hid (RdN w7 sA l2 sC z2) := RdN.step S4.out hb7 (Nat.le_refl _)
        have O7 : Hid (RdN w7 oA k oC z1) := RdN.step O4.out hb7 (Nat.le_refl _)
        have P7 : Hid (RdN w7 pA l2 pC z2) := RdN.step P4.out hb7 (Nat.le_refl _)
        have hbF : Below w.heap.size w w7 := hbb4.trans (hb7.mono s4)
        clear D4 S4 O4 P4 hb7 hb5 hg6 hg7 R6 RG
        go_wp2_with fail
        refine (pos_any w4.heap.size _ _ _ _ _ w7 R7.out).mono ?_
        rintro e w8 ⟨rfl, rfl⟩
        go_wp2_with fail
        go_quiet (fail)
        go_wp2_with fail
        refine (depth_any w4.heap.size _ _ _ _ _ _ (R7.out.draw nq)).mono ?_
        rintro e w8 ⟨rfl, rfl⟩
        have hdd : (dep != dep) = false := by simp
        have hmm : (mis != mis) = false := by simp
        go_wp2_with fail
        refine (mis_any w4.heap.size _ _ _ _ _ _ (R7.out.draw nq)).mono ?_
        rintro e w8 ⟨rfl, rfl⟩
        go_wp2_with fail
        refine (data_any w4.heap.size _ _ _ _ _ _ (R7.out.draw nq)).mono ?_
        rintro e w8 ⟨rfl, rfl⟩
        go_wp2_with fail
        refine (same_yes dA k dC z1 oA k oC z1 _ (D7.out.draw nq) (O7.out.draw nq) (by omega) rfl NO.out.symm).mono ?_
        rintro e w8 ⟨rfl, n8, rfl⟩
        go_wp2_with fail
        refine (scratch_any w4.heap.size _ _ _ _ _ _ (R7.out.draw (nq + n8))).mono ?_
        rintro e w8 ⟨rfl, rfl⟩
        go_wp2_with fail
        refine (same_yes sA l2 sC z2 pA l2 pC z2 _ (S7.out.draw (nq + n8)) (P7.out.draw (nq + n8)) (by omega) rfl NP.out.symm).mono ?_
        rintro e w9 ⟨rfl, n9, rfl⟩
        go_wp2
        go_ret
        exact ⟨rfl, below_draw hbF _⟩

end Go.Proofs.Qxb6629160aFmt
