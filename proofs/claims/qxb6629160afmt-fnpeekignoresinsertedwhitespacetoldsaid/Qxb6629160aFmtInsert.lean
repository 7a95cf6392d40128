/-
  Seat b6629160aF: the walk of 'FnPeekIgnoresInsertedWhiteSpace', whatever fmt's texts.
-/
import Derived.Test.Qxb6629160aFmtTwice
namespace Go.Proofs.Qxb6629160aFmt
open Go.RowKit Go.Extern.Stop Go.Stop Go.Extern Js

theorem joined_first (zs : List Int) (p : Nat) (ws : List Int) (h : p ≤ zs.length) (i : Nat) (h1 : i < p) : (joined zs p ws)[i]?.getD 0 = zs[i]?.getD 0 := by
  rw [joined, List.getElem?_append_left (by simp; omega), List.getElem?_take, if_pos h1]

set_option maxHeartbeats 16000000 in
set_option maxRecDepth 100000 in
theorem insert_walk (F : Interp) (a1 : Option Addr) (l1 c1 : Nat) (z1 : List Int) (pos dep : Int) (mis : Bool) (a2 : Option Addr) (l2 c2 : Nat) (z2 : List Int) (a3 : Option Addr) (l3 c3 : Nat) (z3 : List Int) (w : World) (hF : F.answers w.tape)
    (h1 : RdN w a1 l1 c1 z1) (h2 : RdN w a2 l2 c2 z2) (h3 : RdN w a3 l3 c3 z3) :
    Calls Tryf.prog 3 #[.slice a1 l1 c1, .int .i64 pos, .int .i64 dep, .bool mis, .slice a2 l2 c2, .slice a3 l3 c3] w fun e w' => e = .returned (.bool true) ∧ Below w.heap.size w w' := by
  by_cases g1 : l1 ≤ 1048576
  rotate_left
  · clear h1 h2 h3
    have g : (1048576 : Int) < (l1 : Int) := by omega
    clear g1
    go_enter Tryf.func3, Tryf.ntmps3
    go_wp2_with fail
    refine (bytes_ins _ _ _ _ _ _ _ _ _ _ _ _ _).mono ?_
    rintro e w' ⟨r, rfl, rfl⟩
    cases r
    all_goals
      go_wp2
      go_ret
      exact ⟨rfl, Below.refl _ _⟩
  by_cases g2 : l2 ≤ 1048576
  rotate_left
  · clear h1 h2 h3
    have g : (1048576 : Int) < (l2 : Int) := by omega
    clear g2
    go_enter Tryf.func3, Tryf.ntmps3
    go_wp2_with fail
    refine (bytes_ins _ _ _ _ _ _ _ _ _ _ _ _ _).mono ?_
    rintro e w' ⟨r, rfl, rfl⟩
    cases r
    all_goals
      go_wp2
      go_ret
      exact ⟨rfl, Below.refl _ _⟩
  by_cases g2b : l3 ≤ 1048576
  rotate_left
  · clear h1 h2 h3
    have g : (1048576 : Int) < (l3 : Int) := by omega
    clear g2b
    go_enter Tryf.func3, Tryf.ntmps3
    go_wp2_with fail
    refine (bytes_ins _ _ _ _ _ _ _ _ _ _ _ _ _).mono ?_
    rintro e w' ⟨r, rfl, rfl⟩
    cases r
    all_goals
      go_wp2
      go_ret
      exact ⟨rfl, Below.refl _ _⟩
  by_cases g3 : l1 + l2 + l3 ≤ 1048576
  rotate_left
  · clear h1 h2 h3
    have g : (1048576 : Int) < (l1 : Int) + (l2 : Int) + (l3 : Int) := by omega
    clear g3
    go_enter Tryf.func3, Tryf.ntmps3
    go_wp2_with fail
    refine (bytes_ins _ _ _ _ _ _ _ _ _ _ _ _ _).mono ?_
    rintro e w' ⟨r, rfl, rfl⟩
    cases r
    all_goals
      go_wp2
      go_ret
      exact ⟨rfl, Below.refl _ _⟩
  by_cases g4 : 0 ≤ pos
  rotate_left
  · clear h1 h2 h3
    have g : pos < 0 := by omega
    clear g4
    go_enter Tryf.func3, Tryf.ntmps3
    go_wp2_with fail
    refine (bytes_ins _ _ _ _ _ _ _ _ _ _ _ _ _).mono ?_
    rintro e w' ⟨r, rfl, rfl⟩
    cases r
    all_goals
      go_wp2
      go_ret
      exact ⟨rfl, Below.refl _ _⟩
  by_cases g5 : pos ≤ (l1 : Int)
  rotate_left
  · clear h1 h2 h3
    have g : (l1 : Int) < pos := by omega
    clear g5
    go_enter Tryf.func3, Tryf.ntmps3
    go_wp2_with fail
    refine (bytes_ins _ _ _ _ _ _ _ _ _ _ _ _ _).mono ?_
    rintro e w' ⟨r, rfl, rfl⟩
    cases r
    all_goals
      go_wp2
      go_ret
      exact ⟨rfl, Below.refl _ _⟩
  by_cases g6 : 0 ≤ dep
  rotate_left
  · clear h1 h2 h3
    have g : dep < 0 := by omega
    clear g6
    go_enter Tryf.func3, Tryf.ntmps3
    go_wp2_with fail
    refine (bytes_ins _ _ _ _ _ _ _ _ _ _ _ _ _).mono ?_
    rintro e w' ⟨r, rfl, rfl⟩
    cases r
    all_goals
      go_wp2
      go_ret
      exact ⟨rfl, Below.refl _ _⟩
  obtain ⟨p, rfl⟩ := Int.eq_ofNat_of_zero_le g4
  have hpl : p ≤ l1 := by omega
  obtain ⟨j, hj⟩ := next_of z1 p (by rw [h1.size]; exact hpl)
  have hjl : j ≤ l1 := by have := hj.le; have := h1.size; omega
  have hpj : p ≤ j := hj.ge
  have HJ : Hid (NextIs z1 p j) := hj
  have HL1 : Hid (z1.length = l1) := h1.size
  have HL3 : Hid (z3.length = l3) := h3.size
  have HB1 : Hid (Bytes z1) := h1.bytes
  have HB3 : Hid (Bytes z3) := h3.bytes
  have H1 : Hid (RdN w a1 l1 c1 z1) := h1
  have H2 : Hid (RdN w a2 l2 c2 z2) := h2
  have H3 : Hid (RdN w a3 l3 c3 z3) := h3
  have HF : Hid (F.answers w.tape) := hF
  clear h1 h2 h3 hj hF
  have q1 : decide ((1048576 : Int) < (l1 : Int)) = false := decide_eq_false (by omega)
  have q2 : decide ((1048576 : Int) < (l2 : Int)) = false := decide_eq_false (by omega)
  have q3 : decide ((1048576 : Int) < (l3 : Int)) = false := decide_eq_false (by omega)
  have q4 : decide ((1048576 : Int) < (l1 : Int) + (l2 : Int) + (l3 : Int)) = false := decide_eq_false (by omega)
  have q5 : decide ((p : Int) < 0) = false := decide_eq_false (by omega)
  have q6 : decide (l1 < p) = false := decide_eq_false (by omega)
  have q7 : decide (dep < 0) = false := decide_eq_false (by omega)
  go_enter Tryf.func3, Tryf.ntmps3
  go_wp2_with fail
  refine (bytes_ins _ _ _ _ _ _ _ _ _ _ _ _ _).mono ?_
  rintro e w' ⟨r, rfl, rfl⟩
  cases r
  · go_wp2
    go_ret
    exact ⟨rfl, Below.refl _ _⟩
  go_wp2_with fail
  go_loopw [13] (fun i wr => ∃ k : Nat, k ≤ l3 ∧ i = .int .i64 k ∧ Hid (∀ i, i < k → isSp (z3[i]?.getD 0) = true) ∧ w = wr) (fun i _ => l3 - (intOf i).toNat)
  case atStart => exact ⟨0, Nat.zero_le _, rfl, fun i hi => absurd hi (Nat.not_lt_zero _), rfl⟩
  case round =>
    obtain ⟨k, hk, rfl, HW, rfl⟩ := hrel
    by_cases hlt : k < l3
    · obtain ⟨xb, xo, rfl, _, xc⟩ := H3.out.cells (by omega)
      have hcell := xc k hlt
      clear xc
      cases hs : isSp (z3[k]?.getD 0) with
      | true =>
        have HS : Hid (isSp (z3[k]?.getD 0) = true) := hs
        have HW2 : Hid (∀ i, i < k + 1 → isSp (z3[i]?.getD 0) = true) := fun i hi => if h : i < k then HW.out i h else by rw [show i = k by omega]; exact hs
        clear hs HW
        generalize z3[k]?.getD 0 = c at *
        go_wp2_with (go_at_call 6; refine (sp_yes _ _ HS.out).mono ?_; rintro e w' ⟨rfl, rfl⟩)
        go_roundw
        case rel => exact ⟨k + 1, by omega, by go_num, HW2, by trivial⟩
        case measure => simp [intOf]; omega
      | false =>
        have HS : Hid (isSp (z3[k]?.getD 0) = false) := hs
        clear hs HW
        generalize z3[k]?.getD 0 = c at *
        go_wp2_with (go_at_call 6; refine (sp_no _ _ HS.out).mono ?_; rintro e w' ⟨rfl, rfl⟩)
        go_ret
        exact ⟨rfl, Below.refl _ _⟩
    · obtain rfl : k = l3 := by omega
      go_wp2_with fail
      refine (clone_any a1 l1 c1 z1 w H1.out (by omega)).mono ?_
      rintro e w1 ⟨dA, dC, rfl, hd, _, hb1⟩
      have D1 : Hid (RdN w1 dA l1 dC z1) := hd
      have S1 : Hid (RdN w1 a2 l2 c2 z2) := RdN.step H2.out hb1 (Nat.le_refl _)
      have X1 : Hid (RdN w1 a3 k c3 z3) := RdN.step H3.out hb1 (Nat.le_refl _)
      have s1 := hb1.size
      clear hd
      go_wp2_with fail
      refine (clone_any a2 l2 c2 z2 w1 S1.out (by omega)).mono ?_
      rintro e w2 ⟨sA, sC, rfl, hs, _, hb2⟩
      have D2 : Hid (RdN w2 dA l1 dC z1) := RdN.step D1.out hb2 (Nat.le_refl _)
      have S2 : Hid (RdN w2 sA l2 sC z2) := hs
      have X2 : Hid (RdN w2 a3 k c3 z3) := RdN.step X1.out hb2 (Nat.le_refl _)
      have hbb2 : Below w.heap.size w w2 := hb1.trans (hb2.mono s1)
      have s2 := hbb2.size
      clear hs hb2 hb1 D1 S1 X1
      go_wp2_with fail
      refine (clone_any a3 k c3 z3 w2 X2.out (by omega)).mono ?_
      rintro e w3 ⟨xA, xC, rfl, hx, _, hb3⟩
      have D3 : Hid (RdN w3 dA l1 dC z1) := RdN.step D2.out hb3 (Nat.le_refl _)
      have S3 : Hid (RdN w3 sA l2 sC z2) := RdN.step S2.out hb3 (Nat.le_refl _)
      have X3 : Hid (RdN w3 xA k xC z3) := hx
      have hbb3 : Below w.heap.size w w3 := hbb2.trans (hb3.mono s2)
      have s3 := hbb3.size
      clear hx hb3 hbb2 D2 S2 X2 H1 H2 H3
      go_wp2_with fail
      refine (clone_any dA l1 dC z1 w3 D3.out (by omega)).mono ?_
      rintro e w4 ⟨oA, oC, rfl, ho, hno, hb4⟩
      have D4 : Hid (RdN w4 dA l1 dC z1) := RdN.step D3.out hb4 (Nat.le_refl _)
      have S4 : Hid (RdN w4 sA l2 sC z2) := RdN.step S3.out hb4 (Nat.le_refl _)
      have X4 : Hid (RdN w4 xA k xC z3) := RdN.step X3.out hb4 (Nat.le_refl _)
      have O4 : Hid (RdN w4 oA l1 oC z1) := ho
      have NO : Hid (oA = none ↔ dA = none) := hno
      have hbb4 : Below w.heap.size w w4 := hbb3.trans (hb4.mono s3)
      have s4 := hbb4.size
      clear ho hno hb4 hbb3 D3 S3 X3
      go_wp2_with fail
      refine (clone_any sA l2 sC z2 w4 S4.out (by omega)).mono ?_
      rintro e w5 ⟨pA, pC, rfl, hp5, hnp, hb5⟩
      have D5 : Hid (RdN w5 dA l1 dC z1) := RdN.step D4.out hb5 (Nat.le_refl _)
      have S5 : Hid (RdN w5 sA l2 sC z2) := RdN.step S4.out hb5 (Nat.le_refl _)
      have X5 : Hid (RdN w5 xA k xC z3) := RdN.step X4.out hb5 (Nat.le_refl _)
      have O5 : Hid (RdN w5 oA l1 oC z1) := RdN.step O4.out hb5 (Nat.le_refl _)
      have P5 : Hid (RdN w5 pA l2 pC z2) := hp5
      have NP : Hid (pA = none ↔ sA = none) := hnp
      have hbb5 : Below w.heap.size w w5 := hbb4.trans (hb5.mono s4)
      have s5 := hbb5.size
      clear hp5 hnp hb5 hbb4 D4 S4 X4 O4
      go_wp2_with fail
      refine (next_any oA l1 oC z1 p j w5 O5.out HJ.out (by omega)).mono ?_
      rintro e w6 ⟨rfl, rfl⟩
      obtain ⟨E, hE⟩ : ∃ E, E = (z1[j]?.getD 0 == 0) := ⟨_, rfl⟩
      have HE : Hid (E = (z1[j]?.getD 0 == 0)) := hE
      clear hE
      go_upto_region 26 with (fail)
      go_cut [17] (fun s ws => s = .bool E ∧ w5 = ws)
      case first =>
        by_cases hjc : j < l1
        · obtain ⟨ob, oo, rfl, _, oc⟩ := O5.out.cells (by omega)
          have hcell := oc j hjc
          clear oc
          have hjn : ((j : Int) == (l1 : Int)) = false := beq_eq_false_iff_ne.2 (by omega)
          go_wp2_with fail
          go_meet
          case rel => exact ⟨by rw [HE.out], rfl⟩
        · have hjn : ((j : Int) == (l1 : Int)) = true := beq_iff_eq.2 (by omega)
          have H0 : Hid (E = true) := by show _ = _; rw [HE.out, List.getElem?_eq_none (by have := HL1.out; omega)]; rfl
          go_wp2_with fail
          go_meet
          case rel => exact ⟨by rw [H0.out], rfl⟩
      case rest =>
        obtain ⟨rfl, rfl⟩ := hcut
        go_upto_if 107 with (fail)
        go_cut [17, 18] (fun t s ws => t = .bool E ∧ s = .int .u8 (z1[j]?.getD 0) ∧ w5 = ws)
        case first =>
          cases E with
          | true =>
            have HC : Hid (z1[j]?.getD 0 = 0) := by have := HE.out; show _ = _; simpa using this.symm
            go_wp2_with fail
            go_meet
            case rel => exact ⟨rfl, by rw [HC.out], rfl⟩
          | false =>
            have hc : z1[j]?.getD 0 ≠ 0 := by have := HE.out; simpa using this.symm
            have hjc : j < l1 := by
              by_cases h : j < l1
              · exact h
              · exfalso
                apply hc
                rw [List.getElem?_eq_none (by have := HL1.out; omega)]; rfl
            clear hc
            obtain ⟨ob, oo, rfl, _, oc⟩ := O5.out.cells (by omega)
            have hcell := oc j hjc
            clear oc
            go_wp2_with fail
            go_meet
            case rel => exact ⟨rfl, rfl, rfl⟩
        case rest =>
          obtain ⟨rfl, rfl, rfl⟩ := hcut
          generalize hcj : z1[j]?.getD 0 = c at *
          have HCJ : Hid (z1[j]?.getD 0 = c) := hcj
          clear hcj
          obtain ⟨i0, hi, hz0, hz1, hz2⟩ := info_parts Tryf.info5
          obtain ⟨N, hN⟩ : ∃ N, N = l1 + k := ⟨_, rfl⟩
          have hNI : (l1 : Int) + (k : Int) = (N : Int) := by omega
          have hNl : N ≤ 1048576 := by omega
          have HN : Hid (N = l1 + k) := hN
          clear hN
          go_wp2_with (at_make; refine wpList_make_full _ rfl _ _ 22 rfl w5.heap.size 5 i0 (.int .u8 0) 1 Tryf.underlying22 hi hz0 hz1 _ _ _ _ N rfl rfl (by omega) (by omega) ?b2 ?b3 ?b4 ?_)
          case b2 => rw [hz2]; omega
          case b3 => unfold maxLen; omega
          case b4 => exact Nat.le_refl _
          intro w6 hown6 hgrow6
          have hb6 : Below w5.heap.size w5 w6 := (Below.refl _ _).grown hgrow6 (Nat.le_refl _) (fun k h => by cases h)
          have HFl : Hid (Fill w6 w5.heap.size N 0 (joined z1 p z3)) := Fill.start hown6
          clear hown6 hgrow6 hNI
          go_wp2_with fail
          go_loopw [20, 21] (fun t i wr => ∃ m : Nat, m ≤ p ∧ t = .int .i64 m ∧ i = .int .i64 m ∧ Hid (Fill wr w5.heap.size N m (joined z1 p z3)) ∧ Below w5.heap.size w5 wr) (fun _ i _ => p - (intOf i).toNat)
          case atStart => exact ⟨0, Nat.zero_le _, rfl, rfl, HFl, hb6⟩
          case round =>
            obtain ⟨m, hm, rfl, rfl, hf, hnx⟩ := hrel
            clear HFl hb6
            by_cases hlt : m < p
            · obtain ⟨db, doo, rfl, hdb, dc⟩ := D5.out.cells (by omega)
              have cc : wr.cell? ⟨db, doo + m, none⟩ = some (.int .u8 (z1[m]?.getD 0)) := (hnx.cell (p := ⟨db, doo + m, none⟩) hdb).trans (dc m (by omega))
              clear dc
              have hmN : m < N := by have := HN.out; omega
              obtain ⟨⟨v, hv⟩, hfz⟩ := hf.out.cell hmN
              have R := hf.out.step hmN (c := z1[m]?.getD 0) (joined_first z1 p z3 (by rw [HL1.out]; exact hpl) m hlt).symm
              have R1 : Hid (Fill (wr.setCell ⟨w5.heap.size, m, none⟩ (.int .u8 (z1[m]?.getD 0))) w5.heap.size N (m + 1) (joined z1 p z3)) := R.1
              have R2 : Below w5.heap.size w5 (wr.setCell ⟨w5.heap.size, m, none⟩ (.int .u8 (z1[m]?.getD 0))) := hnx.grown R.2 hnx.size (fun j hj => by cases hj; exact Nat.le_refl _)
              clear R hf
              generalize z1[m]?.getD 0 = x at *
              go_wp2
              go_roundw
              case rel => exact ⟨m + 1, by omega, by go_num, by go_num, R1, R2⟩
              case measure => simp [intOf]; omega
            · obtain rfl : m = p := by omega
              go_wp2_with fail
              go_loopw [20, 22] (fun t i wr => ∃ n : Nat, n ≤ k ∧ t = .int .i64 (m + n : Nat) ∧ i = .int .i64 n ∧ Hid (Fill wr w5.heap.size N (m + n) (joined z1 m z3)) ∧ Below w5.heap.size w5 wr) (fun _ i _ => k - (intOf i).toNat)
              case atStart => exact ⟨0, Nat.zero_le _, rfl, rfl, hf, hnx⟩
              case round =>
                obtain ⟨n, hn, rfl, rfl, hf2, hnx2⟩ := hrel
                clear hf hnx
                by_cases hlt2 : n < k
                · obtain ⟨xb, xo, rfl, hxb, xc⟩ := X5.out.cells (by omega)
                  have cc : wr.cell? ⟨xb, xo + n, none⟩ = some (.int .u8 (z3[n]?.getD 0)) := (hnx2.cell (p := ⟨xb, xo + n, none⟩) hxb).trans (xc n hlt2)
                  clear xc
                  have hmN : m + n < N := by have := HN.out; omega
                  obtain ⟨⟨v, hv⟩, hfz⟩ := hf2.out.cell hmN
                  have R := hf2.out.step hmN (c := z3[n]?.getD 0) (by rw [joined_mid z1 m z3 (by rw [HL1.out]; exact hpl) (m + n) (by omega) (by rw [HL3.out]; omega), Nat.add_sub_cancel_left])
                  have R1 : Hid (Fill (wr.setCell ⟨w5.heap.size, m + n, none⟩ (.int .u8 (z3[n]?.getD 0))) w5.heap.size N (m + (n + 1)) (joined z1 m z3)) := R.1
                  have R2 : Below w5.heap.size w5 (wr.setCell ⟨w5.heap.size, m + n, none⟩ (.int .u8 (z3[n]?.getD 0))) := hnx2.grown R.2 hnx2.size (fun j hj => by cases hj; exact Nat.le_refl _)
                  clear R hf2
                  generalize z3[n]?.getD 0 = x at *
                  go_wp2
                  go_roundw
                  case rel => exact ⟨n + 1, by omega, by go_num, by go_num, R1, R2⟩
                  case measure => simp [intOf]; omega
                · obtain rfl : n = k := by omega
                  go_wp2_with fail
                  go_loopw [20, 23] (fun t i wr => ∃ q : Nat, m ≤ q ∧ q ≤ l1 ∧ t = .int .i64 (q + n : Nat) ∧ i = .int .i64 q ∧ Hid (Fill wr w5.heap.size N (q + n) (joined z1 m z3)) ∧ Below w5.heap.size w5 wr) (fun _ i _ => l1 - (intOf i).toNat)
                  case atStart => exact ⟨m, Nat.le_refl _, hpl, rfl, rfl, hf2, hnx2⟩
                  case round =>
                    obtain ⟨q, hq1, hq2, rfl, rfl, hf3, hnx3⟩ := hrel
                    clear hf2 hnx2
                    by_cases hlt3 : q < l1
                    · obtain ⟨db, doo, rfl, hdb, dc⟩ := D5.out.cells (by omega)
                      have cc : wr.cell? ⟨db, doo + q, none⟩ = some (.int .u8 (z1[q]?.getD 0)) := (hnx3.cell (p := ⟨db, doo + q, none⟩) hdb).trans (dc q (by omega))
                      clear dc
                      have hmN : q + n < N := by have := HN.out; omega
                      obtain ⟨⟨v, hv⟩, hfz⟩ := hf3.out.cell hmN
                      have R := hf3.out.step hmN (c := z1[q]?.getD 0) (by rw [show q + n = q + z3.length by rw [HL3.out], joined_past z1 m z3 (by rw [HL1.out]; exact hpl) q hq1])
                      have R1 : Hid (Fill (wr.setCell ⟨w5.heap.size, q + n, none⟩ (.int .u8 (z1[q]?.getD 0))) w5.heap.size N (q + 1 + n) (joined z1 m z3)) := by rw [show q + 1 + n = q + n + 1 by omega]; exact R.1
                      have R2 : Below w5.heap.size w5 (wr.setCell ⟨w5.heap.size, q + n, none⟩ (.int .u8 (z1[q]?.getD 0))) := hnx3.grown R.2 hnx3.size (fun j hj => by cases hj; exact Nat.le_refl _)
                      clear R hf3
                      generalize z1[q]?.getD 0 = x at *
                      go_wp2
                      go_roundw
                      case rel => exact ⟨q + 1, by omega, by omega, by go_num, by go_num, R1, R2⟩
                      case measure => simp [intOf]; omega
                    · obtain rfl : q = l1 := by omega
                      go_wp2_with fail
                      have HPL : Hid (m ≤ z1.length) := by show _ ≤ _; rw [HL1.out]; exact hpl
                      have hf4 : Fill wr w5.heap.size N N (joined z1 m z3) := by have h := hf3.out; rwa [← HN.out] at h
                      have JR : Hid (RdN wr (some ⟨w5.heap.size, 0, none⟩) N N (joined z1 m z3)) := hf4.done (by rw [joined_len _ _ _ HPL.out, HL1.out, HL3.out, HN.out]) (bytes_joined HB1.out HB3.out)
                      have D6 : Hid (RdN wr dA q dC z1) := RdN.step D5.out hnx3 (Nat.le_refl _)
                      have S6 : Hid (RdN wr sA l2 sC z2) := RdN.step S5.out hnx3 (Nat.le_refl _)
                      have O6 : Hid (RdN wr oA q oC z1) := RdN.step O5.out hnx3 (Nat.le_refl _)
                      have P6 : Hid (RdN wr pA l2 pC z2) := RdN.step P5.out hnx3 (Nat.le_refl _)
                      have hbb6 : Below w.heap.size w wr := hbb5.trans (hnx3.mono s5)
                      have s6 := hbb6.size
                      clear hf3 hf4 D5 S5 O5 P5 X5 hnx3 hbb5
                      refine (clone_any (some ⟨w5.heap.size, 0, none⟩) N N (joined z1 m z3) wr JR.out (by omega)).mono ?_
                      rintro e w7 ⟨qA, qC, rfl, hqq, hnq, hb7⟩
                      have J7 : Hid (RdN w7 (some ⟨w5.heap.size, 0, none⟩) N N (joined z1 m z3)) := RdN.step JR.out hb7 (Nat.le_refl _)
                      have Q7 : Hid (RdN w7 qA N qC (joined z1 m z3)) := hqq
                      have NQ : Hid (qA = none ↔ (some ⟨w5.heap.size, 0, none⟩ : Option Addr) = none) := hnq
                      have D7 : Hid (RdN w7 dA q dC z1) := RdN.step D6.out hb7 (Nat.le_refl _)
                      have S7 : Hid (RdN w7 sA l2 sC z2) := RdN.step S6.out hb7 (Nat.le_refl _)
                      have O7 : Hid (RdN w7 oA q oC z1) := RdN.step O6.out hb7 (Nat.le_refl _)
                      have P7 : Hid (RdN w7 pA l2 pC z2) := RdN.step P6.out hb7 (Nat.le_refl _)
                      have hbb7 : Below w.heap.size w w7 := hbb6.trans (hb7.mono s6)
                      have s7 := hbb7.size
                      clear hqq hnq hb7 hbb6 JR D6 S6 O6 P6
                      go_wp2_with fail
                      refine (clone_any sA l2 sC z2 w7 S7.out (by omega)).mono ?_
                      rintro e w8 ⟨tA, tC, rfl, ht, hnt, hb8⟩
                      have T8 : Hid (RdN w8 tA l2 tC z2) := ht
                      have NT : Hid (tA = none ↔ sA = none) := hnt
                      have J8 : Hid (RdN w8 (some ⟨w5.heap.size, 0, none⟩) N N (joined z1 m z3)) := RdN.step J7.out hb8 (Nat.le_refl _)
                      have Q8 : Hid (RdN w8 qA N qC (joined z1 m z3)) := RdN.step Q7.out hb8 (Nat.le_refl _)
                      have D8 : Hid (RdN w8 dA q dC z1) := RdN.step D7.out hb8 (Nat.le_refl _)
                      have S8 : Hid (RdN w8 sA l2 sC z2) := RdN.step S7.out hb8 (Nat.le_refl _)
                      have O8 : Hid (RdN w8 oA q oC z1) := RdN.step O7.out hb8 (Nat.le_refl _)
                      have P8 : Hid (RdN w8 pA l2 pC z2) := RdN.step P7.out hb8 (Nat.le_refl _)
                      have hbb8 : Below w.heap.size w w8 := hbb7.trans (hb8.mono s7)
                      have s8 := hbb8.size
                      clear ht hnt hb8 hbb7 J7 Q7 D7 S7 O7 P7
                      go_wp2_with fail
                      refine (new_any _ _ _ _ _ _ dA sA q dC l2 sC rfl rfl).mono ?_
                      rintro e w9 ⟨rfl, hw9⟩
                      have A9 : Hid (RdrAt w9 w8.heap.size (.slice dA q dC) m dep mis (.slice sA l2 sC)) := by rw [hw9]; exact rdr_new _ _ _ _ _ _
                      have hb9 : Below w8.heap.size w8 w9 := by rw [hw9]; exact (Below.refl _ _).alloc (Nat.le_refl _) _
                      have l89 := A9.out.lt
                      clear hw9
                      go_wp2_with fail
                      refine (new_any _ _ _ _ _ _ (some ⟨w5.heap.size, 0, none⟩) tA N N l2 tC rfl rfl).mono ?_
                      rintro e w10 ⟨rfl, hw10⟩
                      have B10 : Hid (RdrAt w10 w9.heap.size (.slice (some ⟨w5.heap.size, 0, none⟩) N N) m dep mis (.slice tA l2 tC)) := by rw [hw10]; exact rdr_new _ _ _ _ _ _
                      have hb10 : Below w9.heap.size w9 w10 := by rw [hw10]; exact (Below.refl _ _).alloc (Nat.le_refl _) _
                      have A10 : Hid (RdrAt w10 w8.heap.size (.slice dA q dC) m dep mis (.slice sA l2 sC)) := A9.out.below hb10 l89
                      have l910 := B10.out.lt
                      clear hw10 A9
                      have hb810 : Below w8.heap.size w8 w10 := hb9.trans (hb10.mono (by omega))
                      have HF10 : Hid (F.answers w10.tape) := by show F.answers w10.tape; rw [hb810.tape, hbb8.tape]; exact HF.out
                      have HNX : Hid (NextIs (joined z1 m z3) m (j + n)) := by have h := joined_next HJ.out HPL.out (fun i hi => HW.out i (by rw [← HL3.out]; exact hi)); rw [HL3.out] at h; exact h
                      have HCK : Hid ((joined z1 m z3)[j + n]?.getD 0 = c) := by show _ = _; rw [show j + n = j + z3.length by rw [HL3.out], joined_past z1 m z3 HPL.out j HJ.out.ge]; exact HCJ.out
                      cases E with
                      | true =>
                        obtain rfl : c = 0 := by have := HE.out; simpa using this.symm
                        go_wp2_with fail
                        refine (Peek_no F w8.heap.size dA q dC z1 m j dep mis (.slice sA l2 sC) w10 HF10.out A10.out (Rd.later D8.out hb810) HJ.out (by omega) HCJ.out).mono ?_
                        rintro e w11 ⟨x1, rfl, hr11, hg11⟩
                        have A11 : Hid (RdrAt w11 w8.heap.size (.slice dA q dC) j dep mis (.slice sA l2 sC)) := hr11
                        have B11 : Hid (RdrAt w11 w9.heap.size (.slice (some ⟨w5.heap.size, 0, none⟩) N N) m dep mis (.slice tA l2 tC)) := B10.out.kept hg11 (by simp; omega)
                        have hb811 : Below w8.heap.size w8 w11 := hb810.trans (grown_below hg11 (by omega))
                        have HF11 : Hid (F.answers w11.tape) := by show F.answers w11.tape; rw [hg11.tape]; exact HF10.out
                        have s11 := hg11.size
                        clear hr11
                        go_wp2_with fail
                        refine (Peek_no F w9.heap.size (some ⟨w5.heap.size, 0, none⟩) N N (joined z1 m z3) m (j + n) dep mis (.slice tA l2 tC) w11 HF11.out B11.out ((Rd.later J8.out hb811).wider (by omega)) HNX.out (by omega) HCK.out).mono ?_
                        rintro e w12 ⟨x2, rfl, hr12, hg12⟩
                        have B12 : Hid (RdrAt w12 w9.heap.size (.slice (some ⟨w5.heap.size, 0, none⟩) N N) ((j : Int) + (n : Int)) dep mis (.slice tA l2 tC)) := by have h := hr12; rw [Int.natCast_add] at h; exact h
                        have A12 : Hid (RdrAt w12 w8.heap.size (.slice dA q dC) j dep mis (.slice sA l2 sC)) := A11.out.kept hg12 (by simp; omega)
                        have hb812 : Below w8.heap.size w8 w12 := hb811.trans ((grown_below hg12 (by omega)).mono (by omega))
                        clear hr12
                        have D12 : Hid (RdN w12 dA q dC z1) := RdN.step D8.out hb812 (Nat.le_refl _)
                        have S12 : Hid (RdN w12 sA l2 sC z2) := RdN.step S8.out hb812 (Nat.le_refl _)
                        have T12 : Hid (RdN w12 tA l2 tC z2) := RdN.step T8.out hb812 (Nat.le_refl _)
                        have O12 : Hid (RdN w12 oA q oC z1) := RdN.step O8.out hb812 (Nat.le_refl _)
                        have P12 : Hid (RdN w12 pA l2 pC z2) := RdN.step P8.out hb812 (Nat.le_refl _)
                        have J12 : Hid (RdN w12 (some ⟨w5.heap.size, 0, none⟩) N N (joined z1 m z3)) := RdN.step J8.out hb812 (Nat.le_refl _)
                        have Q12 : Hid (RdN w12 qA N qC (joined z1 m z3)) := RdN.step Q8.out hb812 (Nat.le_refl _)
                        have hbF : Below w.heap.size w w12 := hbb8.trans (hb812.mono s8)
                        have NTP : Hid (tA = none ↔ pA = none) := NT.out.trans NP.out.symm
                        clear D8 S8 T8 O8 P8 J8 Q8 hb810 hb811 hb812 hb9 hb10 hg11 hg12 A10 A11 B10 B11 hbb8
                        have hdd : (dep != dep) = false := by simp
                        have hmm : (mis != mis) = false := by simp
                        have hmi : ((m : Int) != (m : Int)) = false := by simp
                        have hji : ((j : Int) != (j : Int)) = false := by simp
                        have hjn : ((j : Int) + (n : Int) != (j : Int) + (n : Int)) = false := by simp
                        go_wp2_with fail
                        refine (pos_any w8.heap.size _ _ _ _ _ _ A12.out).mono ?_
                        rintro e w13 ⟨rfl, rfl⟩
                        go_wp2_with fail
                        refine (pos_any w9.heap.size _ _ _ _ _ _ B12.out).mono ?_
                        rintro e w13 ⟨rfl, rfl⟩
                        go_wp2_with fail
                        refine (depth_any w8.heap.size _ _ _ _ _ _ A12.out).mono ?_
                        rintro e w13 ⟨rfl, rfl⟩
                        go_wp2_with fail
                        refine (depth_any w9.heap.size _ _ _ _ _ _ B12.out).mono ?_
                        rintro e w13 ⟨rfl, rfl⟩
                        go_wp2_with fail
                        refine (mis_any w8.heap.size _ _ _ _ _ _ A12.out).mono ?_
                        rintro e w13 ⟨rfl, rfl⟩
                        go_wp2_with fail
                        refine (mis_any w9.heap.size _ _ _ _ _ _ B12.out).mono ?_
                        rintro e w13 ⟨rfl, rfl⟩
                        go_wp2_with fail
                        refine (data_any w8.heap.size _ _ _ _ _ _ A12.out).mono ?_
                        rintro e w13 ⟨rfl, rfl⟩
                        go_wp2_with fail
                        refine (same_yes dA q dC z1 oA q oC z1 _ D12.out O12.out (by omega) rfl NO.out.symm).mono ?_
                        rintro e w13 ⟨rfl, n1, rfl⟩
                        go_wp2_with fail
                        refine (data_any w9.heap.size _ _ _ _ _ _ (B12.out.draw n1)).mono ?_
                        rintro e w13 ⟨rfl, rfl⟩
                        go_wp2_with fail
                        refine (same_yes (some ⟨w5.heap.size, 0, none⟩) N N _ qA N qC _ _ (J12.out.draw n1) (Q12.out.draw n1) (by omega) rfl NQ.out.symm).mono ?_
                        rintro e w13 ⟨rfl, n2, rfl⟩
                        go_wp2_with fail
                        refine (scratch_any w8.heap.size _ _ _ _ _ _ (A12.out.draw (n1 + n2))).mono ?_
                        rintro e w13 ⟨rfl, rfl⟩
                        go_wp2_with fail
                        refine (same_yes sA l2 sC z2 pA l2 pC z2 _ (S12.out.draw (n1 + n2)) (P12.out.draw (n1 + n2)) (by omega) rfl NP.out.symm).mono ?_
                        rintro e w13 ⟨rfl, n3, rfl⟩
                        go_wp2_with fail
                        refine (scratch_any w9.heap.size _ _ _ _ _ _ (B12.out.draw (n1 + n2 + n3))).mono ?_
                        rintro e w13 ⟨rfl, rfl⟩
                        go_wp2_with fail
                        refine (same_yes tA l2 tC z2 pA l2 pC z2 _ (T12.out.draw (n1 + n2 + n3)) (P12.out.draw (n1 + n2 + n3)) (by omega) rfl NTP.out).mono ?_
                        rintro e w13 ⟨rfl, n4, rfl⟩
                        go_wp2
                        go_ret
                        exact ⟨rfl, below_draw hbF _⟩
                      | false =>
                        have HNZ : Hid (c ≠ 0) := by have := HE.out; show _ ≠ _; simpa using this.symm
                        have hcc : (c != c) = false := by simp
                        go_wp2_with fail
                        refine (Peek_yes w8.heap.size dA q dC z1 m j dep mis (.slice sA l2 sC) w10 A10.out (Rd.later D8.out hb810) HJ.out (by omega) (by rw [HCJ.out]; exact HNZ.out)).mono ?_
                        rintro e w11 ⟨rfl, hr11, hg11⟩
                        rw [HCJ.out]
                        have A11 : Hid (RdrAt w11 w8.heap.size (.slice dA q dC) m dep mis (.slice sA l2 sC)) := hr11
                        have B11 : Hid (RdrAt w11 w9.heap.size (.slice (some ⟨w5.heap.size, 0, none⟩) N N) m dep mis (.slice tA l2 tC)) := B10.out.kept hg11 (by simp; omega)
                        have hb811 : Below w8.heap.size w8 w11 := hb810.trans (grown_below hg11 (by omega))
                        have s11 := hg11.size
                        clear hr11
                        go_wp2_with fail
                        refine (Peek_yes w9.heap.size (some ⟨w5.heap.size, 0, none⟩) N N (joined z1 m z3) m (j + n) dep mis (.slice tA l2 tC) w11 B11.out ((Rd.later J8.out hb811).wider (by omega)) HNX.out (by omega) (by rw [HCK.out]; exact HNZ.out)).mono ?_
                        rintro e w12 ⟨rfl, hr12, hg12⟩
                        rw [HCK.out]
                        have B12 : Hid (RdrAt w12 w9.heap.size (.slice (some ⟨w5.heap.size, 0, none⟩) N N) m dep mis (.slice tA l2 tC)) := hr12
                        have A12 : Hid (RdrAt w12 w8.heap.size (.slice dA q dC) m dep mis (.slice sA l2 sC)) := A11.out.kept hg12 (by simp; omega)
                        have hb812 : Below w8.heap.size w8 w12 := hb811.trans ((grown_below hg12 (by omega)).mono (by omega))
                        clear hr12
                        have D12 : Hid (RdN w12 dA q dC z1) := RdN.step D8.out hb812 (Nat.le_refl _)
                        have S12 : Hid (RdN w12 sA l2 sC z2) := RdN.step S8.out hb812 (Nat.le_refl _)
                        have T12 : Hid (RdN w12 tA l2 tC z2) := RdN.step T8.out hb812 (Nat.le_refl _)
                        have O12 : Hid (RdN w12 oA q oC z1) := RdN.step O8.out hb812 (Nat.le_refl _)
                        have P12 : Hid (RdN w12 pA l2 pC z2) := RdN.step P8.out hb812 (Nat.le_refl _)
                        have J12 : Hid (RdN w12 (some ⟨w5.heap.size, 0, none⟩) N N (joined z1 m z3)) := RdN.step J8.out hb812 (Nat.le_refl _)
                        have Q12 : Hid (RdN w12 qA N qC (joined z1 m z3)) := RdN.step Q8.out hb812 (Nat.le_refl _)
                        have hbF : Below w.heap.size w w12 := hbb8.trans (hb812.mono s8)
                        have NTP : Hid (tA = none ↔ pA = none) := NT.out.trans NP.out.symm
                        clear D8 S8 T8 O8 P8 J8 Q8 hb810 hb811 hb812 hb9 hb10 hg11 hg12 A10 A11 B10 B11 hbb8
                        have hdd : (dep != dep) = false := by simp
                        have hmm : (mis != mis) = false := by simp
                        have hmi : ((m : Int) != (m : Int)) = false := by simp
                        have hji : ((j : Int) != (j : Int)) = false := by simp
                        have hjn : ((j : Int) + (n : Int) != (j : Int) + (n : Int)) = false := by simp
                        go_wp2_with fail
                        refine (pos_any w8.heap.size _ _ _ _ _ _ A12.out).mono ?_
                        rintro e w13 ⟨rfl, rfl⟩
                        go_wp2_with fail
                        refine (pos_any w9.heap.size _ _ _ _ _ _ B12.out).mono ?_
                        rintro e w13 ⟨rfl, rfl⟩
                        go_wp2_with fail
                        refine (depth_any w8.heap.size _ _ _ _ _ _ A12.out).mono ?_
                        rintro e w13 ⟨rfl, rfl⟩
                        go_wp2_with fail
                        refine (depth_any w9.heap.size _ _ _ _ _ _ B12.out).mono ?_
                        rintro e w13 ⟨rfl, rfl⟩
                        go_wp2_with fail
                        refine (mis_any w8.heap.size _ _ _ _ _ _ A12.out).mono ?_
                        rintro e w13 ⟨rfl, rfl⟩
                        go_wp2_with fail
                        refine (mis_any w9.heap.size _ _ _ _ _ _ B12.out).mono ?_
                        rintro e w13 ⟨rfl, rfl⟩
                        go_wp2_with fail
                        refine (data_any w8.heap.size _ _ _ _ _ _ A12.out).mono ?_
                        rintro e w13 ⟨rfl, rfl⟩
                        go_wp2_with fail
                        refine (same_yes dA q dC z1 oA q oC z1 _ D12.out O12.out (by omega) rfl NO.out.symm).mono ?_
                        rintro e w13 ⟨rfl, n1, rfl⟩
                        go_wp2_with fail
                        refine (data_any w9.heap.size _ _ _ _ _ _ (B12.out.draw n1)).mono ?_
                        rintro e w13 ⟨rfl, rfl⟩
                        go_wp2_with fail
                        refine (same_yes (some ⟨w5.heap.size, 0, none⟩) N N _ qA N qC _ _ (J12.out.draw n1) (Q12.out.draw n1) (by omega) rfl NQ.out.symm).mono ?_
                        rintro e w13 ⟨rfl, n2, rfl⟩
                        go_wp2_with fail
                        refine (scratch_any w8.heap.size _ _ _ _ _ _ (A12.out.draw (n1 + n2))).mono ?_
                        rintro e w13 ⟨rfl, rfl⟩
                        go_wp2_with fail
                        refine (same_yes sA l2 sC z2 pA l2 pC z2 _ (S12.out.draw (n1 + n2)) (P12.out.draw (n1 + n2)) (by omega) rfl NP.out.symm).mono ?_
                        rintro e w13 ⟨rfl, n3, rfl⟩
                        go_wp2_with fail
                        refine (scratch_any w9.heap.size _ _ _ _ _ _ (B12.out.draw (n1 + n2 + n3))).mono ?_
                        rintro e w13 ⟨rfl, rfl⟩
                        go_wp2_with fail
                        refine (same_yes tA l2 tC z2 pA l2 pC z2 _ (T12.out.draw (n1 + n2 + n3)) (P12.out.draw (n1 + n2 + n3)) (by omega) rfl NTP.out).mono ?_
                        rintro e w13 ⟨rfl, n4, rfl⟩
                        go_wp2
                        go_ret
                        exact ⟨rfl, below_draw hbF _⟩

end Go.Proofs.Qxb6629160aFmt
