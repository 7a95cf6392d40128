/-
  Seat b6629084a: the walk of 'FnAppendCanonicalAndInjective'.
-/
import Derived.Test.Qxb6629084aTools
import Derived.Deep.DeepCutAuto
namespace Go.Proofs.Qxb6629084a
open Go.RowKit Esc

/-- what a copy of its own holds -/
theorem copied {w : World} {B B' g n : Nat} {a : Option Addr} {cap : Nat} {zs : List Int} {wr : World} (hB : B ≤ g) (hr : Rd wr B' a n cap zs) (hm : n ≤ 262144)
    (hg : Hid (w.heap[g]? = some (.cells (splice (madeCells #[Value.int .u8 0] n).toList 0 (zs.map (Value.int .u8))).toArray 5 (0, 0)))) : Hid (RdN w (some ⟨g, 0, none⟩) n n zs) := by
  have h := hg.out
  rw [splice_all _ _ (by rw [made_len]; simp [hr.size])] at h
  have ho : Own w B (.slice (some ⟨g, 0, none⟩) n n) zs := own_of_heap hB hr.size (by unfold maxLen; omega) h
  obtain ⟨a', c', e, r⟩ := own_rd ho hr.bytes
  simp only [Value.slice.injEq] at e
  obtain ⟨rfl, h1, rfl⟩ := e
  rw [← h1] at r
  exact r

/-- the texts read alike just where the bytes do -/
theorem equal_dec (a1 : Option Addr) (l1 c1 : Nat) (z1 : List Int) (a2 : Option Addr) (l2 c2 : Nat) (z2 : List Int) (w : World) (h1 : RdN w a1 l1 c1 (enc z1)) (h2 : RdN w a2 l2 c2 (enc z2)) (y1 : Bytes z1) (y2 : Bytes z2) (hm : l1 ≤ 4611686018427387904) :
    Calls Try.prog 8 #[.slice a1 l1 c1, .slice a2 l2 c2] w fun e w' => e = .returned (.bool (decide (z1 = z2))) ∧ ∃ n, w' = w.drewN n := by
  have h := equal_any a1 l1 c1 _ a2 l2 c2 _ w.heap.size w h1 h2 hm
  have e : decide (enc z1 = enc z2) = decide (z1 = z2) := by
    rw [decide_eq_decide]
    exact ⟨enc_inj y1 y2, fun h => by rw [h]⟩
  rw [e] at h
  exact h

set_option maxHeartbeats 4000000 in
set_option maxRecDepth 100000 in
theorem canon_walk (a0 : Option Addr) (l0 c0 : Nat) (z0 : List Int) (a1 : Option Addr) (l1 c1 : Nat) (z1 : List Int) (w : World) (h0 : RdN w a0 l0 c0 z0) (h1 : RdN w a1 l1 c1 z1) :
    Calls Try.prog 4 #[.slice a0 l0 c0, .slice a1 l1 c1] w fun e w' => e = .returned (.bool true) ∧ Below w.heap.size w w' := by
  obtain ⟨i0, hi, hq0, hq1, hq2⟩ := info_parts Try.info5
  by_cases g0 : l0 ≤ 262144
  rotate_left
  · clear h0 h1
    have g0' : (262144 : Int) < (l0 : Int) := by omega
    clear g0
    go_enter Try.func4, Try.ntmps4
    go_wp2_with fail
    refine (bytes_canon _ _ _ _ _ _ _).mono ?_
    rintro e w' ⟨r, rfl, rfl⟩
    cases r
    all_goals
      go_wp2
      go_ret
      exact ⟨rfl, Below.refl _ _⟩
  by_cases g1 : l1 ≤ 262144
  rotate_left
  · clear h0 h1
    have g1' : (262144 : Int) < (l1 : Int) := by omega
    clear g1
    go_enter Try.func4, Try.ntmps4
    go_wp2_with fail
    refine (bytes_canon _ _ _ _ _ _ _).mono ?_
    rintro e w' ⟨r, rfl, rfl⟩
    cases r
    all_goals
      go_wp2
      go_ret
      exact ⟨rfl, Below.refl _ _⟩
  have hn := fun (w : World) (a : Option Addr) (n c : Nat) => run_neq_slice_nil_any (P := Try.prog) w 22 5 a n c 0 0 Try.underlying22
  have H0 : Hid (RdN w a0 l0 c0 z0) := h0
  have H1 : Hid (RdN w a1 l1 c1 z1) := h1
  clear h0 h1
  go_enter Try.func4, Try.ntmps4
  go_wp2_with fail
  refine (bytes_canon _ _ _ _ _ _ _).mono ?_
  rintro e w' ⟨r, rfl, rfl⟩
  cases r
  · go_wp2
    go_ret
    exact ⟨rfl, Below.refl _ _⟩
  go_upto_if 24 with (fail)
  go_cut [0] (fun s ws => ∃ a' c', s = .slice a' l0 c' ∧ Hid (RdN ws a' l0 c' z0) ∧ Below w.heap.size w ws)
  case first =>
    cases a0 with
    | none =>
      go_wp2
      go_meet
      case rel => exact ⟨_, _, rfl, H0, Below.refl _ _⟩
    | some ad =>
      go_wp2_with (at_make; refine wpList_make_full _ rfl _ _ 22 rfl w.heap.size 5 i0 (.int .u8 0) 1 Try.underlying22 hi hq0 hq1 _ _ _ _ l0 rfl rfl rfl rfl ?b2 ?b3 ?b4 ?_)
      case b2 => rw [hq2]; omega
      case b3 => unfold maxLen; omega
      case b4 => exact Nat.le_refl _
      intro w1 hown1 hgrow1
      have hb1 : Below w.heap.size w w1 := (Below.refl _ _).grown hgrow1 (Nat.le_refl _) (fun k h => by cases h)
      have HG : Hid (w1.heap[w.heap.size]? = some (.cells (madeCells #[Value.int .u8 0] l0).toList.toArray 5 (0, 0))) := heap_of_full hown1
      clear hown1 hgrow1
      have HR1 : Hid (Rd w1 w.heap.size (some ad) l0 c0 z0) := Rd.later H0.out hb1
      have N1 : Hid ((z0.map (Value.int .u8)).length = Nat.min l0 l0) := by show _ = _; rw [List.length_map, HR1.out.size]; exact (Nat.min_self _).symm
      have N3 : Hid (0 + (z0.map (Value.int .u8)).length ≤ (madeCells #[Value.int .u8 0] l0).toList.length) := by show _ ≤ _; rw [made_len]; simp [HR1.out.size]
      go_wp2_with (refine wpList_copy_splice rfl (.tmp 28) (.tmp 29) 22 22 rfl 5 Try.underlying22 (by rw [hi]; simp [hq1]) _ _ _ _ _ _ rfl rfl w.heap.size 0 (madeCells #[Value.int .u8 0] l0).toList 5 HG.out (z0.map (Value.int .u8)) N1.out (fun hp => ⟨rfl, src_cells HR1.out hp⟩) N3.out (ints_oneCell _ _) w.heap.size w hb1 (Nat.le_refl _) ?_)
      intro w2 hg2 hb2
      have R := copied (Nat.le_refl _) HR1.out (by omega) hg2
      clear hg2 HG
      go_wp2
      go_meet
      case rel => exact ⟨_, _, rfl, R, hb2⟩
  case rest =>
    obtain ⟨a0', c0', rfl, H0', hb0⟩ := hcut
    have H1' : Hid (RdN wc a1 l1 c1 z1) := RdN.step H1.out hb0 (Nat.le_refl _)
    have hs0 := hb0.size
    clear H0 H1
    go_upto_if 33 with (fail)
    go_cut [1] (fun s ws => ∃ a' c', s = .slice a' l1 c' ∧ Hid (RdN ws a' l1 c' z1) ∧ Hid (RdN ws a0' l0 c0' z0) ∧ Below w.heap.size w ws)
    case first =>
      cases a1 with
      | none =>
        go_wp2
        go_meet
        case rel => exact ⟨_, _, rfl, H1', H0', hb0⟩
      | some ad =>
        go_wp2_with (at_make; refine wpList_make_full _ rfl _ _ 22 rfl wc.heap.size 5 i0 (.int .u8 0) 1 Try.underlying22 hi hq0 hq1 _ _ _ _ l1 rfl rfl rfl rfl ?b2 ?b3 ?b4 ?_)
        case b2 => rw [hq2]; omega
        case b3 => unfold maxLen; omega
        case b4 => exact Nat.le_refl _
        intro w1 hown1 hgrow1
        have hb1 : Below wc.heap.size wc w1 := (Below.refl _ _).grown hgrow1 (Nat.le_refl _) (fun k h => by cases h)
        have HG : Hid (w1.heap[wc.heap.size]? = some (.cells (madeCells #[Value.int .u8 0] l1).toList.toArray 5 (0, 0))) := heap_of_full hown1
        clear hown1 hgrow1
        have HR1 : Hid (Rd w1 wc.heap.size (some ad) l1 c1 z1) := Rd.later H1'.out hb1
        have N1 : Hid ((z1.map (Value.int .u8)).length = Nat.min l1 l1) := by show _ = _; rw [List.length_map, HR1.out.size]; exact (Nat.min_self _).symm
        have N3 : Hid (0 + (z1.map (Value.int .u8)).length ≤ (madeCells #[Value.int .u8 0] l1).toList.length) := by show _ ≤ _; rw [made_len]; simp [HR1.out.size]
        go_wp2_with (refine wpList_copy_splice rfl (.tmp 37) (.tmp 38) 22 22 rfl 5 Try.underlying22 (by rw [hi]; simp [hq1]) _ _ _ _ _ _ rfl rfl wc.heap.size 0 (madeCells #[Value.int .u8 0] l1).toList 5 HG.out (z1.map (Value.int .u8)) N1.out (fun hp => ⟨rfl, src_cells HR1.out hp⟩) N3.out (ints_oneCell _ _) wc.heap.size wc hb1 (Nat.le_refl _) ?_)
        intro w2 hg2 hb2
        have R := copied (Nat.le_refl _) HR1.out (by omega) hg2
        clear hg2 HG
        go_wp2
        go_meet
        case rel => exact ⟨_, _, rfl, R, RdN.step H0'.out hb2 (Nat.le_refl _), hb0.trans (hb2.mono hs0)⟩
    case rest =>
      obtain ⟨a1', c1', rfl, K1, K0, hb1⟩ := hcut
      have s1 := hb1.size
      have HY0 : Hid (Bytes z0) := K0.out.bytes
      have HY1 : Hid (Bytes z1) := K1.out.bytes
      have HL0 : Hid (z0.length = l0) := K0.out.size
      have HL1 : Hid (z1.length = l1) := K1.out.size
      clear H0' H1' hs0 hb0
      go_wp2_with fail
      refine (append_nil_rd a0' l0 c0' z0 _ K0.out (by omega)).mono ?_
      rintro e w2 ⟨ta, nta, cta, rfl, hnta, hta, hb2⟩
      have t0 : nta ≤ 1048576 := by have := enc_le z0; have := HL0.out; omega
      have K0a : Hid (RdN w2 a0' l0 c0' z0) := RdN.step K0.out hb2 (Nat.le_refl _)
      have K1a : Hid (RdN w2 a1' l1 c1' z1) := RdN.step K1.out hb2 (Nat.le_refl _)
      have KTa : Hid (RdN w2 ta nta cta (enc z0)) := hta
      have hbb : Below w.heap.size w w2 := hb1.trans (hb2.mono s1)
      have s2 := hbb.size
      clear hnta hta hb2 hb1 K0 K1
      go_wp2_with fail
      refine (append_nil_rd a1' l1 c1' z1 _ K1a.out (by omega)).mono ?_
      rintro e w3 ⟨tb, ntb, ctb, rfl, hntb, htb, hb3⟩
      have t1 : ntb ≤ 1048576 := by have := enc_le z1; have := HL1.out; omega
      have K0b : Hid (RdN w3 a0' l0 c0' z0) := RdN.step K0a.out hb3 (Nat.le_refl _)
      have K1b : Hid (RdN w3 a1' l1 c1' z1) := RdN.step K1a.out hb3 (Nat.le_refl _)
      have KTb : Hid (RdN w3 ta nta cta (enc z0)) := RdN.step KTa.out hb3 (Nat.le_refl _)
      have KSb : Hid (RdN w3 tb ntb ctb (enc z1)) := htb
      have hbc : Below w.heap.size w w3 := hbb.trans (hb3.mono s2)
      have s3 := hbc.size
      clear hntb htb hb3 hbb K0a K1a KTa
      go_wp2_with fail
      refine (decode_rd ta nta cta z0 true _ KTb.out HY0.out (by omega)).mono ?_
      rintro e w4 ⟨da, nda, cda, rfl, hnda, hda, hb4⟩
      have t2 : nda ≤ 262144 := by have := HL0.out; omega
      have K0c : Hid (RdN w4 a0' l0 c0' z0) := RdN.step K0b.out hb4 (Nat.le_refl _)
      have K1c : Hid (RdN w4 a1' l1 c1' z1) := RdN.step K1b.out hb4 (Nat.le_refl _)
      have KTc : Hid (RdN w4 ta nta cta (enc z0)) := RdN.step KTb.out hb4 (Nat.le_refl _)
      have KSc : Hid (RdN w4 tb ntb ctb (enc z1)) := RdN.step KSb.out hb4 (Nat.le_refl _)
      have KDc : Hid (RdN w4 da nda cda z0) := hda
      have hbd : Below w.heap.size w w4 := hbc.trans (hb4.mono s3)
      have s4 := hbd.size
      clear hnda hda hb4 hbc K0b K1b KTb KSb
      go_wp2_with fail
      refine (equal_yes da nda cda z0 a0' l0 c0' z0 _ KDc.out K0c.out (by omega) rfl).mono ?_
      rintro e w5 ⟨rfl, n5, rfl⟩
      go_wp2_with fail
      refine (decode_rd tb ntb ctb z1 true _ (KSc.out.draw n5) HY1.out (by omega)).mono ?_
      rintro e w6 ⟨db, ndb, cdb, rfl, hndb, hdb, hb6⟩
      have t3 : ndb ≤ 262144 := by have := HL1.out; omega
      have K0d : Hid (RdN w6 a0' l0 c0' z0) := RdN.step (K0c.out.draw n5) hb6 (Nat.le_refl _)
      have K1d : Hid (RdN w6 a1' l1 c1' z1) := RdN.step (K1c.out.draw n5) hb6 (Nat.le_refl _)
      have KTd : Hid (RdN w6 ta nta cta (enc z0)) := RdN.step (KTc.out.draw n5) hb6 (Nat.le_refl _)
      have KSd : Hid (RdN w6 tb ntb ctb (enc z1)) := RdN.step (KSc.out.draw n5) hb6 (Nat.le_refl _)
      have KDd : Hid (RdN w6 db ndb cdb z1) := hdb
      have hbe : Below w.heap.size w w6 := (below_draw hbd n5).trans (hb6.mono s4)
      clear hndb hdb hb6 hbd K0c K1c KTc KSc KDc
      go_wp2_with fail
      refine (equal_yes db ndb cdb z1 a1' l1 c1' z1 _ KDd.out K1d.out (by omega) rfl).mono ?_
      rintro e w7 ⟨rfl, n7, rfl⟩
      go_wp2_with fail
      refine (equal_dec ta nta cta z0 tb ntb ctb z1 _ (KTd.out.draw n7) (KSd.out.draw n7) HY0.out HY1.out (by omega)).mono ?_
      rintro e w8 ⟨rfl, n8, rfl⟩
      go_wp2_with fail
      refine (equal_any a0' l0 c0' z0 a1' l1 c1' z1 _ _ (K0d.out.draw (n7 + n8)) (K1d.out.draw (n7 + n8)) (by omega)).mono ?_
      rintro e w9 ⟨rfl, n9, rfl⟩
      generalize decide (z0 = z1) = D
      have hD : (D == D) = true := by simp
      go_wp2
      go_ret
      exact ⟨rfl, below_draw hbe _⟩

end Go.Proofs.Qxb6629084a
