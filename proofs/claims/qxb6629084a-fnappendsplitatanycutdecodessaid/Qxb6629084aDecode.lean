/-
  Seat b6629084a: 'escB1Decode' of the text of bs gives bs back, strict or not.
-/
import Derived.Test.Qxb6629084aClone
namespace Go.Proofs.Qxb6629084a
open Go.RowKit Esc

theorem own_snoc {w w1 : World} {B : Nat} {u v' : Value} {X : List Int} {c : Int} {o : Obj} {w0 : World} (hnx : Below B w0 w) (hB : B ≤ w.heap.size) (hown : Own w B u X)
    (hown1 : w1.ownsRow B 5 1 v' (X.length + 1) (X.map (Value.int .u8) ++ [.int .u8 c])) (hgrow : (w.alloc o).grownBy w1 u.ownBlock) : Own w1 B v' (X ++ [c]) ∧ Below B w0 w1 :=
  ⟨by simpa [Own] using hown1, (hnx.alloc hB _).grown hgrow (by simp; omega) (fun j hj => (World.ownsRow.lt hown j hj).1)⟩

theorem or_all : ∀ a b : Fin 16, bits BinOp.or IntKind.u8 ((a.val : Int) * 16) (b.val : Int) = 16 * (a.val : Int) + (b.val : Int) := by decide +kernel
theorem or_of {d1 d2 : Int} (b1 : 0 ≤ d1) (b2 : d1 < 16) (b3 : 0 ≤ d2) (b4 : d2 < 16) : bits BinOp.or IntKind.u8 (d1 * 16) d2 = 16 * d1 + d2 := by
  obtain ⟨n, rfl⟩ := Int.eq_ofNat_of_zero_le b1
  obtain ⟨m, rfl⟩ := Int.eq_ofNat_of_zero_le b3
  exact or_all ⟨n, by omega⟩ ⟨m, by omega⟩

set_option maxHeartbeats 2000000 in
set_option maxRecDepth 100000 in
theorem decode_any (a : Option Addr) (len cap : Nat) (bs : List Int) (strict : Bool) (B : Nat) (w : World)
    (hrd : Rd w B a len cap (enc bs)) (hbs : Bytes bs) (hB : B ≤ w.heap.size) (hm : len ≤ 4398046511104) :
    Calls Try.prog 9 #[.slice a len cap, .bool strict] w fun e w' => ∃ v, e = .returned (.tuple #[v, .bool true]) ∧ Own w' w.heap.size v bs ∧ Below w.heap.size w w' := by
  obtain ⟨i0, hi, hz0, hz1, hz2⟩ := info_parts Try.info5
  have HR : Hid (Rd w B a len cap (enc bs)) := hrd
  have HBS : Hid (Bytes bs) := hbs
  clear hrd hbs
  go_enter Try.func9, Try.ntmps9
  go_wp2_with (at_make; refine wpList_make_own _ rfl _ _ 22 rfl w.heap.size 5 i0 (.int .u8 0) 1 Try.underlying22 hi hz0 hz1 _ _ _ len rfl rfl rfl ?b2 ?b3 ?b4 ?_)
  case b2 => rw [hz2]; omega
  case b3 => unfold maxLen; omega
  case b4 => exact Nat.le_refl _
  intro w1 hown1 hgrow1
  have hb1 : Below w.heap.size w w1 := (Below.refl _ _).grown hgrow1 (Nat.le_refl _) (fun k h => by cases h)
  clear hgrow1
  go_wp2
  go_loopw [6, 7] (fun u i wr => ∃ j : Nat, j ≤ bs.length ∧ i = .int .i64 ((enc (bs.take j)).length : Nat) ∧ Own wr w.heap.size u (bs.take j) ∧ Below w.heap.size w wr) (fun _ i _ => len - (intOf i).toNat)
  case atStart => exact ⟨0, Nat.zero_le _, rfl, by simpa [Own] using hown1, hb1⟩
  case round =>
    obtain ⟨j, hj, rfl, hown, hnx⟩ := hrel
    clear hown1 hb1
    by_cases hlt : j < bs.length
    · have hl := HR.out.size
      have hsz := hnx.size
      have hlb := enc_ge bs
      have hstep := enc_step bs j hlt
      have htk := take_snoc bs j hlt
      have hbt := bytes_at HBS.out j
      have hXl : (bs.take j).length ≤ 4398046511104 := by simp; omega
      obtain ⟨b, off, rfl, hbB, hc0⟩ := HR.out.cells (by have := enc1_len (bs[j]?.getD 0); have h2 := congrArg List.length (enc_at bs j hlt); simp at h2; omega)
      have HC : Hid (∀ i, i < len → wr.cell? ⟨b, off + i, none⟩ = some (.int .u8 ((enc bs)[i]?.getD 0))) := fun i hi => (hnx.cell (p := ⟨b, off + i, none⟩) (by show b < _; omega)).trans (hc0 i hi)
      clear hc0
      cases hp : plainB (bs[j]?.getD 0) with
      | true =>
        obtain ⟨q1, q2⟩ := enc_at_plain bs j hlt hp
        have g := HC.out (enc (bs.take j)).length (by omega)
        rw [q2] at g
        rw [enc1_plain hp] at hstep
        have hne := plainB_true hp
        have HP : Hid (plainB (bs[j]?.getD 0) = true) := hp
        have hstep2 : (enc (bs.take (j + 1))).length = (enc (bs.take j)).length + 1 := by rw [hstep]; simp
        have HST : Hid ((enc (bs.take (j + 1))).length = (enc (bs.take j)).length + 1) := hstep2
        have HTK : Hid (bs.take (j + 1) = bs.take j ++ [bs[j]?.getD 0]) := htk
        have hKl : (enc (bs.take j)).length < len := by omega
        clear q1 q2 hp hstep hstep2 htk HC hl
        generalize hc : bs[j]?.getD 0 = c at *
        generalize hK : (enc (bs.take j)).length = K at *
        generalize hX : bs.take j = X at *
        have HH : Hid (bs[j]?.getD 0 = c ∧ (enc X).length = K ∧ bs.take j = X) := ⟨hc, hK, hX⟩
        clear hc hK hX
        have h92 : (c != 92) = true := by simpa using hne.2.2
        clear hne
        cases strict
        all_goals
          go_wp2_with (first
            | (go_at_call 12; refine (self_yes _ _ HP.out).mono ?_; rintro e w' ⟨rfl, rfl⟩)
            | (at_builtin; refine wpList_append_own _ rfl _ _ 22 rfl w.heap.size 5 i0 (.int .u8 0) 1 1 Try.underlying22 hi hz0 hz1 hz2 rfl (by decide) _ _ _ rfl (World.ownsRow.alloc hown _) ⟨wr.heap.size, 0, none⟩ 1 1 [.int .u8 c] rfl rfl (cell_one_new _ _ _) (by simp [Value.oneCell']) (by unfold maxLen; omega) (by omega) (by simp; omega) ?_; intro v' w2 hown2 hgrow2 _; have R := own_snoc hnx (by omega) hown hown2 hgrow2; clear hown2 hgrow2))
          clear hown g
          go_wp2
          go_roundw
          case rel => exact ⟨j + 1, by omega, by rw [HST.out]; go_num, by rw [HTK.out]; assumption⟩
          case measure => simp [intOf]; omega
      | false =>
        obtain ⟨q1, q2, q3, q4, q5⟩ := enc_at_not bs j hlt hp
        have g0 := HC.out (enc (bs.take j)).length (by omega)
        have g1 := HC.out ((enc (bs.take j)).length + 1) (by omega)
        have g2 := HC.out ((enc (bs.take j)).length + 2) (by omega)
        have g3 := HC.out ((enc (bs.take j)).length + 3) (by omega)
        rw [q2] at g0
        rw [q3] at g1
        rw [q4] at g2
        rw [q5] at g3
        rw [enc1_not hp] at hstep
        have HP : Hid (plainB (bs[j]?.getD 0) = false) := hp
        have hstep2 : (enc (bs.take (j + 1))).length = (enc (bs.take j)).length + 4 := by rw [hstep]; simp
        have HST : Hid ((enc (bs.take (j + 1))).length = (enc (bs.take j)).length + 4) := hstep2
        have HTK : Hid (bs.take (j + 1) = bs.take j ++ [bs[j]?.getD 0]) := htk
        have hKl : (enc (bs.take j)).length + 4 ≤ len := by omega
        clear q1 q2 q3 q4 q5 hp hstep hstep2 htk HC hl
        generalize hc : bs[j]?.getD 0 = c at *
        generalize hK : (enc (bs.take j)).length = K at *
        generalize hX : bs.take j = X at *
        obtain ⟨d1, hd1⟩ : ∃ d1, d1 = c / 16 := ⟨_, rfl⟩
        obtain ⟨d2, hd2⟩ : ∃ d2, d2 = c % 16 := ⟨_, rfl⟩
        rw [← hd1] at g2
        rw [← hd2] at g3
        have b1 : 0 ≤ d1 := by omega
        have b2 : d1 < 16 := by omega
        have b3 : 0 ≤ d2 := by omega
        have b4 : d2 < 16 := by omega
        have hv : bits BinOp.or IntKind.u8 (d1 * 16) d2 = c := by rw [or_of b1 b2 b3 b4]; omega
        obtain ⟨e1, he1⟩ : ∃ e1, e1 = hexd d1 := ⟨_, rfl⟩
        obtain ⟨e2, he2⟩ : ∃ e2, e2 = hexd d2 := ⟨_, rfl⟩
        rw [← he1] at g2
        rw [← he2] at g3
        have HE1 : Hid (e1 = hexd d1) := he1
        have HE2 : Hid (e2 = hexd d2) := he2
        have HH : Hid (bs[j]?.getD 0 = c ∧ (enc X).length = K ∧ bs.take j = X) := ⟨hc, hK, hX⟩
        clear hc hK hX hd1 hd2 he1 he2
        cases strict
        all_goals
          go_wp2_with (first
            | (go_at_call_of 13 e1; refine (hex_any _ d1 _ _ b1 b2 HE1).mono ?_; rintro e w' ⟨rfl, rfl⟩)
            | (go_at_call_of 13 e2; refine (hex_any _ d2 _ _ b3 b4 HE2).mono ?_; rintro e w' ⟨rfl, rfl⟩)
            | (go_at_call 12; refine (self_no _ _ HP.out).mono ?_; rintro e w' ⟨rfl, rfl⟩)
            | (at_builtin; refine wpList_append_own _ rfl _ _ 22 rfl w.heap.size 5 i0 (.int .u8 0) 1 1 Try.underlying22 hi hz0 hz1 hz2 rfl (by decide) _ _ _ rfl (World.ownsRow.alloc hown _) ⟨wr.heap.size, 0, none⟩ 1 1 [.int .u8 c] rfl rfl (cell_one_new _ _ _) (by simp [Value.oneCell']) (by unfold maxLen; omega) (by omega) (by simp; omega) ?_; intro v' w2 hown2 hgrow2 _; have R := own_snoc hnx (by omega) hown hown2 hgrow2; clear hown2 hgrow2))
          clear hown g0 g1 g2 g3
          go_wp2
          go_roundw
          case rel => exact ⟨j + 1, by omega, by rw [HST.out]; go_num, by rw [HTK.out]; assumption⟩
          case measure => simp [intOf]; omega
    · obtain rfl : j = bs.length := by omega
      have hl := HR.out.size
      rw [List.take_of_length_le (Nat.le_refl _)] at *
      rw [hl]
      clear hl
      go_wp2
      go_ret2
      exact ⟨_, rfl, hown, hnx⟩

end Go.Proofs.Qxb6629084a
