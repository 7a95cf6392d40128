/-
  Seat b6629084a: the walk of 'FnAppendSplitAtAnyCutDecodes'.
-/
import Derived.Test.Qxb6629084aCanon
import Derived.Deep.RegionWith
namespace Go.Proofs.Qxb6629084a
open Go.RowKit Esc

theorem Rd.take {w : World} {B : Nat} {a : Option Addr} {len cap k : Nat} {zs : List Int} (h : Rd w B a len cap zs) (hk : k ≤ len) : Rd w B a k cap (zs.take k) := by
  refine ⟨by have := h.size; simp; omega, Nat.le_trans hk h.fits, fun x hx => h.bytes x (List.mem_of_mem_take hx), h.nil0, fun h0 => ?_⟩
  obtain ⟨b, off, ha, hb, hc⟩ := h.cells (by omega)
  refine ⟨b, off, ha, hb, fun i hi => ?_⟩
  rw [hc i (by omega), List.getElem?_take, if_pos hi]

theorem Rd.drop {w : World} {B : Nat} {a : Option Addr} {len cap k : Nat} {zs : List Int} (h : Rd w B a len cap zs) (hk : k ≤ len) {a' : Option Addr} (ha' : a' = if cap = k then a else a.map (·.add k)) :
    Rd w B a' (len - k) (cap - k) (zs.drop k) := by
  subst ha'
  refine ⟨by have := h.size; simp; omega, by have := h.fits; omega, fun x hx => h.bytes x (List.mem_of_mem_drop hx), fun hn => ?_, fun h0 => ?_⟩
  · by_cases hc : cap = k
    · omega
    · rw [if_neg hc] at hn
      have : a = none := by cases a with
        | none => rfl
        | some x => cases hn
      have := h.nil0 this
      omega
  · obtain ⟨b, off, ha, hb, hc⟩ := h.cells (by omega)
    subst ha
    rw [if_neg (by have := h.fits; omega)]
    refine ⟨b, off + k, by simp [Addr.add_lit], hb, fun i hi => ?_⟩
    rw [Nat.add_assoc, hc (k + i) (by omega), List.getElem?_drop]

theorem below_undraw {w w' : World} (h : Below w.drew.heap.size w.drew w') : Below w.heap.size w w' := ⟨h.os, h.tape, h.output, h.size, h.block⟩

theorem first_done {w3 w4 w5 : World} {v : Value} {xs : List Int} (h4 : Below w3.drew.heap.size w3.drew w4) (h5 : Below w3.heap.size w4 w5) (ho : Own w5 w3.heap.size v xs) : Hid (Own w5 w3.heap.size v xs) ∧ Below w3.heap.size w3 w5 :=
  ⟨ho, (below_undraw h4).trans h5⟩

theorem second_done {w w3 w5 w6 : World} {k : Nat} {a0 b wh a' : Option Addr} {l0 c0 l1 cb nw cw n' c' : Nat} {z0 z1 : List Int} (s3 : w.heap.size ≤ w3.heap.size)
    (hr : RdN w6 a' n' c' (z0 ++ enc (z1.take k) ++ enc (z1.drop k))) (K0 : Hid (RdN w3 a0 l0 c0 z0)) (K1 : Hid (RdN w3 b l1 cb z1)) (KW : Hid (RdN w3 wh nw cw (z0 ++ enc z1)))
    (h5 : Below w3.heap.size w3 w5) (h6 : Below w3.heap.size w5 w6) (hb : Below w.heap.size w w3) :
    Hid (RdN w6 a' n' c' (z0 ++ enc z1)) ∧ Hid (RdN w6 a0 l0 c0 z0) ∧ Hid (RdN w6 b l1 cb z1) ∧ Hid (RdN w6 wh nw cw (z0 ++ enc z1)) ∧ Below w.heap.size w w6 := by
  have h := h5.trans h6
  refine ⟨?_, RdN.step K0.out h (Nat.le_refl _), RdN.step K1.out h (Nat.le_refl _), RdN.step KW.out h (Nat.le_refl _), hb.trans (h.mono s3)⟩
  rw [List.append_assoc, ← enc_append, List.take_append_drop] at hr
  exact hr

set_option maxHeartbeats 4000000 in
set_option maxRecDepth 100000 in
theorem split_walk (a0 : Option Addr) (l0 c0 : Nat) (z0 : List Int) (a1 : Option Addr) (l1 c1 : Nat) (z1 : List Int) (i : Int) (w : World) (h0 : RdN w a0 l0 c0 z0) (h1 : RdN w a1 l1 c1 z1) :
    Calls Try.prog 3 #[.slice a0 l0 c0, .slice a1 l1 c1, .int .i64 i] w fun e w' => e = .returned (.bool true) ∧ Below w.heap.size w w' := by
  obtain ⟨i0, hi, hq0, hq1, hq2⟩ := info_parts Try.info5
  by_cases g0 : l0 ≤ 524288 ∧ l1 ≤ 262144 ∧ 0 ≤ i ∧ i ≤ (l1 : Int)
  rotate_left
  · clear h0 h1 hi hq0 hq1 hq2
    have g0' : (524288 : Int) < (l0 : Int) ∨ (262144 : Int) < (l1 : Int) ∨ i < 0 ∨ (l1 : Int) < i := by omega
    clear g0
    go_enter Try.func3, Try.ntmps3
    go_wp2_with fail
    refine (bytes_split _ _ _ _ _ _ _ _).mono ?_
    rintro e w' ⟨r, rfl, rfl⟩
    cases r
    · go_wp2
      go_ret
      exact ⟨rfl, Below.refl _ _⟩
    · rcases g0' with g | g | g | g
      · go_wp2
        go_ret
        exact ⟨rfl, Below.refl _ _⟩
      · by_cases g2 : (524288 : Int) < (l0 : Int)
        all_goals
          go_wp2
          go_ret
          exact ⟨rfl, Below.refl _ _⟩
      · by_cases g2 : (524288 : Int) < (l0 : Int)
        · go_wp2
          go_ret
          exact ⟨rfl, Below.refl _ _⟩
        · by_cases g3 : (262144 : Int) < (l1 : Int)
          all_goals
            go_wp2
            go_ret
            exact ⟨rfl, Below.refl _ _⟩
      · by_cases g2 : (524288 : Int) < (l0 : Int)
        · go_wp2
          go_ret
          exact ⟨rfl, Below.refl _ _⟩
        · by_cases g3 : (262144 : Int) < (l1 : Int)
          · go_wp2
            go_ret
            exact ⟨rfl, Below.refl _ _⟩
          · have g4 : ¬ i < 0 := by omega
            go_wp2
            go_ret
            exact ⟨rfl, Below.refl _ _⟩
  obtain ⟨g0, g1, g2, g3⟩ := g0
  obtain ⟨k, rfl⟩ := Int.eq_ofNat_of_zero_le g2
  have hk : k ≤ l1 := by omega
  clear g2 g3
  have hn := fun (w : World) (a : Option Addr) (n c : Nat) => run_neq_slice_nil_any (P := Try.prog) w 22 5 a n c 0 0 Try.underlying22
  have H0 : Hid (RdN w a0 l0 c0 z0) := h0
  have H1 : Hid (RdN w a1 l1 c1 z1) := h1
  clear h0 h1
  go_enter Try.func3, Try.ntmps3
  go_wp2_with fail
  refine (bytes_split _ _ _ _ _ _ _ _).mono ?_
  rintro e w' ⟨r, rfl, rfl⟩
  cases r
  · go_wp2
    go_ret
    exact ⟨rfl, Below.refl _ _⟩
  go_upto_if 33 with (fail)
  go_cut [1] (fun s ws => ∃ a' c', s = .slice a' l1 c' ∧ Hid (RdN ws a' l1 c' z1) ∧ Hid (RdN ws a0 l0 c0 z0) ∧ Below w.heap.size w ws)
  case first =>
    cases a1 with
    | none =>
      go_wp2
      go_meet
      case rel => exact ⟨_, _, rfl, H1, H0, Below.refl _ _⟩
    | some ad =>
      go_wp2_with (at_make; refine wpList_make_full _ rfl _ _ 22 rfl w.heap.size 5 i0 (.int .u8 0) 1 Try.underlying22 hi hq0 hq1 _ _ _ _ l1 rfl rfl rfl rfl ?b2 ?b3 ?b4 ?_)
      case b2 => rw [hq2]; omega
      case b3 => unfold maxLen; omega
      case b4 => exact Nat.le_refl _
      intro w1 hown1 hgrow1
      have hb1 : Below w.heap.size w w1 := (Below.refl _ _).grown hgrow1 (Nat.le_refl _) (fun k h => by cases h)
      have HG : Hid (w1.heap[w.heap.size]? = some (.cells (madeCells #[Value.int .u8 0] l1).toList.toArray 5 (0, 0))) := heap_of_full hown1
      clear hown1 hgrow1
      have HR1 : Hid (Rd w1 w.heap.size (some ad) l1 c1 z1) := Rd.later H1.out hb1
      have N1 : Hid ((z1.map (Value.int .u8)).length = Nat.min l1 l1) := by show _ = _; rw [List.length_map, HR1.out.size]; exact (Nat.min_self _).symm
      have N3 : Hid (0 + (z1.map (Value.int .u8)).length ≤ (madeCells #[Value.int .u8 0] l1).toList.length) := by show _ ≤ _; rw [made_len]; simp [HR1.out.size]
      go_wp2_with (refine wpList_copy_splice rfl (.tmp 37) (.tmp 38) 22 22 rfl 5 Try.underlying22 (by rw [hi]; simp [hq1]) _ _ _ _ _ _ rfl rfl w.heap.size 0 (madeCells #[Value.int .u8 0] l1).toList 5 HG.out (z1.map (Value.int .u8)) N1.out (fun hp => ⟨rfl, src_cells HR1.out hp⟩) N3.out (ints_oneCell _ _) w.heap.size w hb1 (Nat.le_refl _) ?_)
      intro w2 hg2 hb2
      have R := copied (Nat.le_refl _) HR1.out (by omega) hg2
      clear hg2 HG
      go_wp2
      go_meet
      case rel => exact ⟨_, _, rfl, R, RdN.step H0.out hb2 (Nat.le_refl _), hb2⟩
  case rest =>
    obtain ⟨b, cb, rfl, K1, K0, hb1⟩ := hcut
    have s1 := hb1.size
    have HY0 : Hid (Bytes z0) := K0.out.bytes
    have HY1 : Hid (Bytes z1) := K1.out.bytes
    have HL0 : Hid (z0.length = l0) := K0.out.size
    have HL1 : Hid (z1.length = l1) := K1.out.size
    clear H0 H1
    go_wp2_with fail
    refine (clone_rd a0 l0 c0 z0 _ K0.out (by omega)).mono ?_
    rintro e w2 ⟨v1, d1, rfl, ho2, _, hb2⟩
    have s2 := hb2.size
    go_wp2_with fail
    refine (append_rd _ z0 b l1 cb z1 wc.heap.size w2 ho2 HY0.out (Rd.later K1.out hb2) s2 (by have := HL0.out; omega) (by omega)).mono ?_
    rintro e w3 ⟨wh, nw, cw, rfl, hnw, _, hr3, hb3⟩
    have hkc : (k : Int) ≤ (cb : Int) := by have := K1.out.fits; omega
    have HN : Hid (nw = z0.length + (enc z1).length) := hnw
    have s23 : wc.heap.size ≤ w3.heap.size := Nat.le_trans s2 hb3.size
    have hb13 : Below wc.heap.size wc w3 := hb2.trans hb3
    have K0c : Hid (RdN w3 a0 l0 c0 z0) := RdN.step K0.out hb13 (Nat.le_refl _)
    have K1c : Hid (RdN w3 b l1 cb z1) := RdN.step K1.out hb13 (Nat.le_refl _)
    have KWc : Hid (RdN w3 wh nw cw (z0 ++ enc z1)) := hr3
    have hbc : Below w.heap.size w w3 := hb1.trans (hb13.mono s1)
    have s3 := hbc.size
    clear hnw hr3 hb13 hb1 hb2 hb3 ho2 K0 K1 s2 s23
    go_wp2_with fail
    go_cut [9] (fun s ws => ∃ a' n' c', s = .slice a' n' c' ∧ Hid (Own ws w3.heap.size (.slice a' n' c') (z0 ++ enc (z1.take k))) ∧ Below w3.heap.size w3 ws)
    case first =>
      go_region_with (first
        | (go_at_call 7; refine (clone_rd a0 l0 c0 z0 _ ?_ ?_).mono ?_; (exact K0c.out.draw 1); omega; rintro e w4 ⟨v4, d4, rfl, ho4, _, hb4⟩)
        | (go_at_call 6; refine (append_rd _ z0 b k cb (z1.take k) w3.heap.size w4 ?_ HY0.out ?_ ?_ ?_ ?_).mono ?_; (exact ho4); (exact Rd.take (Rd.later K1c.out (below_undraw hb4)) hk); (exact hb4.size); (have := HL0.out; omega); omega; rintro e w5 ⟨v5, n5, d5, rfl, hn5, ho5, _, hb5⟩; have R := first_done hb4 hb5 ho5; clear hb5 ho5 hn5))
      all_goals
        go_wp2_with fail
        go_meet
        case rel => exact ⟨_, _, _, rfl, by assumption⟩
    case rest =>
      obtain ⟨v5, n5, d5, rfl, HO5, hb5⟩ := hcut
      have s5 := hb5.size
      have K0d : Hid (RdN wc a0 l0 c0 z0) := RdN.step K0c.out hb5 (Nat.le_refl _)
      have K1d : Hid (RdN wc b l1 cb z1) := RdN.step K1c.out hb5 (Nat.le_refl _)
      have K1e : Hid (Rd wc w3.heap.size b l1 cb z1) := Rd.later K1c.out hb5
      have KWd : Hid (RdN wc wh nw cw (z0 ++ enc z1)) := RdN.step KWc.out hb5 (Nat.le_refl _)
      have hbd : Below w.heap.size w wc := hbc.trans (hb5.mono s3)
      have hlen : (z0 ++ enc (z1.take k)).length ≤ 1099511627776 := by
        have h1 := enc_le (z1.take k)
        have h2 := HL0.out
        have h3 : (z1.take k).length ≤ k := List.length_take_le _ _
        simp; omega
      go_upto_region 15 with (fail)
      go_cut [1, 10] (fun s1 s ws => s1 = .slice b l1 cb ∧ ∃ a' n' c', s = .slice a' n' c' ∧ Hid (RdN ws a' n' c' (z0 ++ enc z1)) ∧ Hid (RdN ws a0 l0 c0 z0) ∧ Hid (RdN ws b l1 cb z1) ∧ Hid (RdN ws wh nw cw (z0 ++ enc z1)) ∧ Below w.heap.size w ws)
      case first =>
        by_cases hck : cb = k
        · subst hck
          go_wp2_with fail
          refine (append_rd _ (z0 ++ enc (z1.take cb)) _ (l1 - cb) 0 (z1.drop cb) w3.heap.size wc HO5.out (bytes_append HY0.out (bytes_enc (fun x hx => HY1.out x (List.mem_of_mem_take hx)))) (by have := Rd.drop K1e.out hk (a' := b) (by rw [if_pos rfl]); simpa using this) s5 hlen (by omega)).mono ?_
          rintro e w6 ⟨v6, n6, d6, rfl, hn6, ho6, hr6, hb6⟩
          have R := second_done s3 hr6 K0c K1c KWc hb5 hb6 hbc
          clear hn6 ho6 hr6 hb6
          go_wp2_with fail
          go_meet
          case rel => exact ⟨rfl, _, _, _, rfl, R⟩
        · go_wp2_with fail
          refine (append_rd _ (z0 ++ enc (z1.take k)) _ (l1 - k) (cb - k) (z1.drop k) w3.heap.size wc HO5.out (bytes_append HY0.out (bytes_enc (fun x hx => HY1.out x (List.mem_of_mem_take hx)))) (Rd.drop K1e.out hk (by rw [if_neg hck])) s5 hlen (by omega)).mono ?_
          rintro e w6 ⟨v6, n6, d6, rfl, hn6, ho6, hr6, hb6⟩
          have R := second_done s3 hr6 K0c K1c KWc hb5 hb6 hbc
          clear hn6 ho6 hr6 hb6
          go_wp2_with fail
          go_meet
          case rel => exact ⟨rfl, _, _, _, rfl, R⟩
      case rest =>
        obtain ⟨rfl, st, ns, cs, rfl, KS, K0, K1, KW, hbe⟩ := hcut
        have hnw : nw ≤ 1572864 := by have h1 := enc_le z1; have h2 := HL0.out; have h3 := HL1.out; have h4 := HN.out; omega
        have hnl : (l0 : Int) ≤ (nw : Int) := by have h2 := HL0.out; have h4 := HN.out; omega
        have hcw : (nw : Int) ≤ (cw : Int) := by have := KW.out.fits; omega
        have hlw : (l0 : Int) ≤ (cw : Int) := by omega
        have s6 := hbe.size
        clear K0d K1d K1e KWd hbd HO5 hb5 s5 hbc K0c K1c KWc s3
        go_wp2_with fail
        refine (equal_yes wh nw cw _ st ns cs _ _ KW.out KS.out (by omega) rfl).mono ?_
        rintro e w7 ⟨rfl, m7, rfl⟩
        go_wp2_with fail
        refine (equal_yes wh l0 cw (List.take l0 (z0 ++ enc z1)) a0 l0 c0 z0 _ (Rd.take (KW.out.draw m7) (by omega)) (K0.out.draw m7) (by omega) (by rw [← HL0.out]; simp)).mono ?_
        rintro e w8 ⟨rfl, m8, rfl⟩
        have hdz : (z0 ++ enc z1).drop l0 = enc z1 := by rw [← HL0.out]; simp
        have HDZ : Hid ((z0 ++ enc z1).drop l0 = enc z1) := hdz
        clear hdz
        by_cases hcl : cw = l0
        · have D : Hid (RdN (wc.drewN (m7 + m8)) wh (nw - l0) 0 (enc z1)) := by
            have := Rd.drop (KW.out.draw (m7 + m8)) (k := l0) (by omega) (a' := wh) (by rw [if_pos hcl])
            rw [HDZ.out, show cw - l0 = 0 by omega] at this
            exact this
          go_wp2_with fail
          refine (decode_rd wh (nw - l0) 0 z1 false _ D.out HY1.out (by omega)).mono ?_
          rintro e w9 ⟨de, nd, cd, rfl, hnd, hd9, hb9⟩
          have t3 : nd ≤ 262144 := by have := HL1.out; omega
          have HD9 : Hid (RdN w9 de nd cd z1) := hd9
          have K1z : Hid (RdN w9 b l1 cb z1) := RdN.step (K1.out.draw (m7 + m8)) hb9 (Nat.le_refl _)
          have hbz : Below w.heap.size w w9 := (below_draw hbe (m7 + m8)).trans (hb9.mono s6)
          clear hnd hd9 hb9
          go_wp2_with fail
          refine (equal_yes de nd cd z1 b l1 cb z1 _ HD9.out K1z.out (by omega) rfl).mono ?_
          rintro e w10 ⟨rfl, m10, rfl⟩
          go_wp2
          go_ret
          exact ⟨rfl, below_draw hbz _⟩
        · have D : Hid (RdN (wc.drewN (m7 + m8)) (Option.map (fun x => x.add l0) wh) (nw - l0) (cw - l0) (enc z1)) := by
            have := Rd.drop (KW.out.draw (m7 + m8)) (k := l0) (by omega) (a' := Option.map (fun x => x.add l0) wh) (by rw [if_neg hcl])
            rw [HDZ.out] at this
            exact this
          go_wp2_with fail
          refine (decode_rd _ (nw - l0) (cw - l0) z1 false _ D.out HY1.out (by omega)).mono ?_
          rintro e w9 ⟨de, nd, cd, rfl, hnd, hd9, hb9⟩
          have t3 : nd ≤ 262144 := by have := HL1.out; omega
          have HD9 : Hid (RdN w9 de nd cd z1) := hd9
          have K1z : Hid (RdN w9 b l1 cb z1) := RdN.step (K1.out.draw (m7 + m8)) hb9 (Nat.le_refl _)
          have hbz : Below w.heap.size w w9 := (below_draw hbe (m7 + m8)).trans (hb9.mono s6)
          clear hnd hd9 hb9
          go_wp2_with fail
          refine (equal_yes de nd cd z1 b l1 cb z1 _ HD9.out K1z.out (by omega) rfl).mono ?_
          rintro e w10 ⟨rfl, m10, rfl⟩
          go_wp2
          go_ret
          exact ⟨rfl, below_draw hbz _⟩

end Go.Proofs.Qxb6629084a
