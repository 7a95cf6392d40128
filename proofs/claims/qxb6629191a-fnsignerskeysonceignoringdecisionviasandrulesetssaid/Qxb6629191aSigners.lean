/-
  Seat b6629191a: the walk of 'KeyExplanation.Signers'.
-/
import Derived.Test.Qxb6629191aBase
import Derived.Lib.Strings
namespace Go.Proofs.Qxb6629191a
open Go.RowKit Sg

/-- THE CALL's OWN SLICE v HOLDS THE STRINGS xs, in blocks from B on. -/
def Ow (w : World) (B : Nat) (v : Value) (xs : List ByteArray) : Prop := w.ownsRow B 9 1 v xs.length (xs.map Value.string)

theorem toList_inj {a b : ByteArray} (h : a.toList = b.toList) : a = b := by
  rw [Lib.toList_data, Lib.toList_data] at h
  exact ByteArray.ext (Array.toList_inj.1 h)

theorem toList_ne {a b : ByteArray} (h : a ≠ b) : (a.toList != b.toList) = true := by
  rw [bne_iff_ne]
  exact fun e => h (toList_inj e)

theorem ow_form {w : World} {B : Nat} {v : Value} {xs : List ByteArray} (h : Ow w B v xs) (hx : 0 < xs.length) : ∃ g cap m, v = .slice (some ⟨g, 0, none⟩) (m + 1) cap ∧ xs.length = m + 1 ∧ B ≤ g ∧ g < w.heap.size ∧ ∀ i, i < m + 1 → w.cell? ⟨g, i, none⟩ = some (.string (xs[i]?.getD E0)) := by
  rcases h.2 with ⟨_, hn⟩ | ⟨g, cap, cur, rfl, hb, hg, _⟩
  · omega
  · obtain ⟨m, hm⟩ : ∃ m, xs.length = m + 1 := ⟨xs.length - 1, by omega⟩
    refine ⟨g, cap, m, by rw [hm], hm, hb, (Array.getElem?_eq_some_iff.1 hg).1, fun i hi => ?_⟩
    rw [h.cellAt i (by omega), List.getElem?_map, List.getElem?_eq_getElem (by omega)]
    simp

theorem last_at (xs : List ByteArray) (hx : 0 < xs.length) : xs.getLast? = some (xs[xs.length - 1]?.getD E0) := by
  rw [List.getLast?_eq_getElem?, List.getElem?_eq_getElem (by omega)]
  rfl

theorem ow_snoc {w w1 : World} {B : Nat} {u v' : Value} {X : List ByteArray} {c : ByteArray} {o : Obj} {w0 : World} (hnx : Below B w0 w) (hB : B ≤ w.heap.size) (hown : Ow w B u X)
    (hown1 : w1.ownsRow B 9 1 v' (X.length + 1) (X.map Value.string ++ [.string c])) (hgrow : (w.alloc o).grownBy w1 u.ownBlock) : Ow w1 B v' (X ++ [c]) ∧ Below B w0 w1 :=
  ⟨by simpa [Ow] using hown1, (hnx.alloc hB _).grown hgrow (by simp; omega) (fun j hj => (World.ownsRow.lt hown j hj).1)⟩

theorem Ow.kept {w w' : World} {B : Nat} {v : Value} {xs : List ByteArray} (h : Ow w B v xs) (hb : Below w.heap.size w w') : Ow w' B v xs :=
  World.ownsRow.kept h (row := none) ⟨hb.os, hb.tape, hb.output, hb.size, fun k hk _ => hb.block k hk⟩ (by cases hv : v.ownBlock <;> simp)

/-- A REGION THAT DRAWS, WHOSE FIRST FOUR OPERATIONS HAVE COME UP: the rest only reads: one walk of the lexical order serves every order (the guide's Derived/Deep/Quiet.lean, from the fifth operation on). -/
theorem quiet_tail {P : Program} {o0 o1 o2 o3 : Oper} {l : List Oper} {listed : Array Bool} {a : Act} {w : World} {Q : Exit → Act → World → Prop}
    (hs : Region.noSelect (o0 :: o1 :: o2 :: o3 :: l).toArray = true) (hB : Region.lexFrom .any (o0 :: o1 :: o2 :: o3 :: l).toArray l.length 4 listed = true)
    (h : wpQuiet P (o0 :: o1 :: o2 :: o3 :: l).toArray (fun w' => ∃ n, w' = w.drewN n) (fun a' => ∀ w', (∃ n, w' = w.drewN n) → Q .normal a' w') l a) :
    wpAny P .any (o0 :: o1 :: o2 :: o3 :: l).toArray Q l.length listed a w := by
  refine wpAny_of_quiet (C := fun w' => ∃ n, w' = w.drewN n) (Q := fun a' => ∀ w', (∃ n, w' = w.drewN n) → Q .normal a' w') (fun _ w' hw' h => h w' hw') _ _ _ _ ⟨0, rfl⟩ ?_
  exact wpAnyQ_lex hs l 4 listed a (fun j => by simp [Nat.add_comm 4 j]) hB h

/-- is the key put at the end? -/
def app (X : List ByteArray) (s : ByteArray) : Bool := !names s && decide (X.getLast? ≠ some s)

theorem step_yes {X : List ByteArray} {s : ByteArray} (h : app X s = true) : Sg.step X s = X ++ [s] := by
  simp [app] at h
  simp [Sg.step, h.1, h.2]

theorem step_no {X : List ByteArray} {s : ByteArray} (h : app X s = false) : Sg.step X s = X := by
  unfold Sg.step
  by_cases hn : names s = true
  · rw [if_pos hn]
  · rw [if_neg hn]
    by_cases hl : X.getLast? = some s
    · rw [if_pos hl]
    · simp [app, hn, hl] at h

/-- 'delegates' at a key of which it is known whether it names a rule set -/
theorem dele_at (s v : ByteArray) (r : Bool) (hs : Hid (s.size ≤ maxLen)) (hr : names s = r) : Hid (∀ w : World, Calls Try.prog 13 #[.agg #[.string s, .string v]] w fun e w' => e = .returned (.bool r) ∧ w' = w.alloc (.cells #[.string s, .string v] 32)) := by
  subst hr
  exact fun w => dele_any s v w hs.out

/-- what holds behind the test: two new blocks, some draws -/
theorem met {w wr : World} {X : List ByteArray} {u : Value} {s v : ByteArray} (n : Nat) (hnx : Below w.heap.size w wr) (hsz : w.heap.size ≤ wr.heap.size) (hown : Hid (Ow wr w.heap.size u X)) :
    Hid (Ow ((((wr.alloc (.cells #[.string s, .string v] 32)).drew).alloc (.cells #[.string s, .string v] 32)).drewN n) w.heap.size u X) ∧
    ((((wr.alloc (.cells #[.string s, .string v] 32)).drew).alloc (.cells #[.string s, .string v] 32)).drewN n).cell? ⟨wr.heap.size, 0, none⟩ = some (.string s) ∧
    Below w.heap.size w ((((wr.alloc (.cells #[.string s, .string v] 32)).drew).alloc (.cells #[.string s, .string v] 32)).drewN n) ∧
    wr.heap.size < ((((wr.alloc (.cells #[.string s, .string v] 32)).drew).alloc (.cells #[.string s, .string v] 32)).drewN n).heap.size := by
  have B1 : Below wr.heap.size wr ((((wr.alloc (.cells #[.string s, .string v] 32)).drew).alloc (.cells #[.string s, .string v] 32)).drewN n) := below_draw (((below_draw ((Below.refl _ _).alloc (Nat.le_refl _) _) 1)).alloc (by simp) _) n
  have h0 : (wr.alloc (.cells #[.string s, .string v] 32)).cell? ⟨wr.heap.size, 0, none⟩ = some (.string s) := (World.cell?_alloc_at (w := wr) #[.string s, .string v] 32 wr.heap.size 0 rfl).trans rfl
  have B2 : Below (wr.alloc (.cells #[.string s, .string v] 32)).heap.size (wr.alloc (.cells #[.string s, .string v] 32)) ((((wr.alloc (.cells #[.string s, .string v] 32)).drew).alloc (.cells #[.string s, .string v] 32)).drewN n) := below_draw ((below_draw (Below.refl _ _) 1).alloc (by simp) _) n
  refine ⟨hown.out.kept B1, (B2.cell (p := ⟨wr.heap.size, 0, none⟩) (by simp)).trans h0, ?_, by have h := B2.size; rw [World.size_alloc] at h; omega⟩
  exact below_draw ((below_draw (hnx.alloc hsz _) 1).alloc (by simp; omega) _) n

set_option maxHeartbeats 2000000 in
set_option maxRecDepth 100000 in
theorem sig_any (al : Bool) (a : Option Addr) (len cap : Nat) (ks vs : List ByteArray) (w : World) (hrd : Pr w w.heap.size a len cap ks vs) (hs : ∀ i, i < len → (ks[i]?.getD E0).size ≤ maxLen) (hm : len ≤ 1099511627776) :
    Calls Try.prog 8 #[.agg #[.bool al, .slice a len cap]] w fun e w' => ∃ v, e = .returned v ∧ Ow w' w.heap.size v (sig ks) ∧ (sig ks = [] → v = .slice none 0 0) ∧ Below w.heap.size w w' := by
  obtain ⟨i0, hi, hz0, hz1, hz2⟩ := info_parts Try.info9
  have HR : Hid (Pr w w.heap.size a len cap ks vs) := hrd
  have HS : Hid (∀ i, i < len → (ks[i]?.getD E0).size ≤ maxLen) := hs
  clear hrd hs
  go_enter Try.func8, Try.ntmps8
  go_wp2
  go_loopw [3, 9] (fun u i wr => ∃ k : Nat, k ≤ len ∧ i = .int .i64 k ∧ Hid (Ow wr w.heap.size u (sig (ks.take k))) ∧ Hid (sig (ks.take k) = [] → u = .slice none 0 0) ∧ Below w.heap.size w wr) (fun _ i _ => len - (intOf i).toNat)
  case atStart => exact ⟨0, Nat.zero_le _, rfl, World.ownsRow_nil _ _ _ _, fun _ => rfl, (Below.refl _ _).alloc (Nat.le_refl _) _⟩
  case round =>
    obtain ⟨k, hk, rfl, hown, hnil, hnx⟩ := hrel
    by_cases hlt : k < len
    · obtain ⟨b, off, rfl, hb, hc⟩ := HR.out.cells (by omega)
      have hc1 : wr.cell? ⟨b, off + k * 2, none⟩ = some (.string (ks[k]?.getD E0)) := (hnx.cell (p := ⟨b, off + k * 2, none⟩) hb).trans (hc k hlt).1
      have hc2 : wr.cell? ⟨b, off + k * 2 + 1, none⟩ = some (.string (vs[k]?.getD E0)) := (hnx.cell (p := ⟨b, off + k * 2 + 1, none⟩) hb).trans (hc k hlt).2
      have HSK : Hid ((ks[k]?.getD E0).size ≤ maxLen) := HS.out k hlt
      have HST : Hid (sig (ks.take (k + 1)) = Sg.step (sig (ks.take k)) (ks[k]?.getD E0)) := sig_take ks k E0 (by rw [HR.out.size]; exact hlt)
      have hXl : (sig (ks.take k)).length ≤ k := Nat.le_trans (sig_len _) (List.length_take_le _ _)
      have hsz := hnx.size
      have hki : (k : Int) < (len : Int) := by omega
      clear hc
      generalize ks[k]?.getD E0 = s at *
      generalize vs[k]?.getD E0 = v at *
      generalize sig (ks.take k) = X at *
      go_wp2_with fail
      go_cut [31] (fun t ws => t = .bool (app X s) ∧ Hid (Ow ws w.heap.size u3 X) ∧ ws.cell? ⟨wr.heap.size, 0, none⟩ = some (.string s) ∧ Below w.heap.size w ws ∧ wr.heap.size < ws.heap.size)
      case first =>
        cases hnm : names s with
        | true =>
          have HA : Hid (app X s = false) := by show _ = _; simp [app, hnm]
          have HD := dele_at s v true HSK hnm
          clear hnm hnil
          refine wp_region_any (by kernel_rfl) ?_
          change wpAny _ _ _ _ _ _ _ (World.drew _)
          refine wpAny_ready (rs := [0]) (by kernel_rfl) (by simp) ?_
          refine AllReady.cons rfl (fun K hK => ?_) AllReady.nil
          go_simp
          refine hK _ _ ?_
          clear hK K
          refine wpAny_ready (rs := [1]) (by kernel_rfl) (by simp) ?_
          refine AllReady.cons rfl (fun K hK => ?_) AllReady.nil
          go_simp
          refine (HD.out _).mono ?_
          rintro e w2 ⟨rfl, rfl⟩
          refine hK _ _ ?_
          clear hK K
          refine wpAny_ready (rs := [2]) (by kernel_rfl) (by simp) ?_
          refine AllReady.cons rfl (fun K hK => ?_) AllReady.nil
          go_simp
          refine hK _ _ ?_
          clear hK K
          refine wpAny_ready (rs := [3]) (by kernel_rfl) (by simp) ?_
          refine AllReady.cons rfl (fun K hK => ?_) AllReady.nil
          go_simp
          refine hK _ _ ?_
          clear hK K
          refine quiet_tail (by kernel_rfl) (by kernel_rfl) ?_
          repeat (first | go_big_quiet_step (fail) | quiet_step (fail))
          refine wpQuiet_nil ?_
          intro _ hw'
          obtain ⟨nq, hw''⟩ := hw'
          subst hw''
          go_wp2_with fail
          go_meet
          case rel => exact ⟨by rw [HA.out], met nq hnx hsz hown⟩
        | false =>
          have HD := dele_at s v false HSK hnm
          by_cases hX : 0 < X.length
          · obtain ⟨g, cap2, m, rfl, hm2, hg1, hg2, hcx⟩ := ow_form hown.out hX
            have HL : X.getLast? = some (X[m]?.getD E0) := by have h := last_at X hX; rwa [hm2] at h
            have hcl := hcx m (by omega)
            generalize X[m]?.getD E0 = L at *
            have hwm : IntKind.i64.wrap (m : Int) = (m : Int) := wrap_small _ (by omega) (by omega)
            have hz0m : ((m : Int) + 1 == 0) = false := by rw [beq_eq_false_iff_ne]; omega
            by_cases hLs : L = s
            · subst hLs
              have HA : Hid (app X L = false) := by show _ = _; simp [app, HL]
              clear hcx HL hnm hnil
              refine wp_region_any (by kernel_rfl) ?_
              change wpAny _ _ _ _ _ _ _ (World.drew _)
              refine wpAny_ready (rs := [0]) (by kernel_rfl) (by simp) ?_
              refine AllReady.cons rfl (fun K hK => ?_) AllReady.nil
              go_simp
              refine hK _ _ ?_
              clear hK K
              refine wpAny_ready (rs := [1]) (by kernel_rfl) (by simp) ?_
              refine AllReady.cons rfl (fun K hK => ?_) AllReady.nil
              go_simp
              refine (HD.out _).mono ?_
              rintro e w2 ⟨rfl, rfl⟩
              refine hK _ _ ?_
              clear hK K
              refine wpAny_ready (rs := [2]) (by kernel_rfl) (by simp) ?_
              refine AllReady.cons rfl (fun K hK => ?_) AllReady.nil
              go_simp
              refine hK _ _ ?_
              clear hK K
              refine wpAny_ready (rs := [3]) (by kernel_rfl) (by simp) ?_
              refine AllReady.cons rfl (fun K hK => ?_) AllReady.nil
              go_simp
              refine hK _ _ ?_
              clear hK K
              refine quiet_tail (by kernel_rfl) (by kernel_rfl) ?_
              repeat (first | go_big_quiet_step (fail) | quiet_step (fail))
              refine wpQuiet_nil ?_
              intro _ hw'
              obtain ⟨nq, hw''⟩ := hw'
              subst hw''
              go_wp2_with fail
              go_meet
              case rel => exact ⟨by rw [HA.out], met nq hnx hsz hown⟩
            · have HE : Hid ((!L.toList == s.toList) = true) := by show _ = _; simpa using toList_ne hLs
              have HA : Hid (app X s = true) := by show _ = _; simp [app, HL, hnm, hLs]
              clear hcx HL hnm hnil
              refine wp_region_any (by kernel_rfl) ?_
              change wpAny _ _ _ _ _ _ _ (World.drew _)
              refine wpAny_ready (rs := [0]) (by kernel_rfl) (by simp) ?_
              refine AllReady.cons rfl (fun K hK => ?_) AllReady.nil
              go_simp
              refine hK _ _ ?_
              clear hK K
              refine wpAny_ready (rs := [1]) (by kernel_rfl) (by simp) ?_
              refine AllReady.cons rfl (fun K hK => ?_) AllReady.nil
              go_simp
              refine (HD.out _).mono ?_
              rintro e w2 ⟨rfl, rfl⟩
              refine hK _ _ ?_
              clear hK K
              refine wpAny_ready (rs := [2]) (by kernel_rfl) (by simp) ?_
              refine AllReady.cons rfl (fun K hK => ?_) AllReady.nil
              go_simp
              refine hK _ _ ?_
              clear hK K
              refine wpAny_ready (rs := [3]) (by kernel_rfl) (by simp) ?_
              refine AllReady.cons rfl (fun K hK => ?_) AllReady.nil
              go_simp
              refine hK _ _ ?_
              clear hK K
              refine quiet_tail (by kernel_rfl) (by kernel_rfl) ?_
              repeat (first | go_big_quiet_step (fail) | quiet_step (fail))
              refine wpQuiet_nil ?_
              intro _ hw'
              obtain ⟨nq, hw''⟩ := hw'
              subst hw''
              go_wp2_with fail
              go_meet
              case rel => exact ⟨by rw [HA.out, HE.out], met nq hnx hsz hown⟩
          · have hX0 : X = [] := List.eq_nil_of_length_eq_zero (by omega)
            subst hX0
            obtain rfl := hnil.out rfl
            have HA : Hid (app [] s = true) := by show _ = _; simp [app, hnm]
            clear hnm hnil
            refine wp_region_any (by kernel_rfl) ?_
            change wpAny _ _ _ _ _ _ _ (World.drew _)
            refine wpAny_ready (rs := [0]) (by kernel_rfl) (by simp) ?_
            refine AllReady.cons rfl (fun K hK => ?_) AllReady.nil
            go_simp
            refine hK _ _ ?_
            clear hK K
            refine wpAny_ready (rs := [1]) (by kernel_rfl) (by simp) ?_
            refine AllReady.cons rfl (fun K hK => ?_) AllReady.nil
            go_simp
            refine (HD.out _).mono ?_
            rintro e w2 ⟨rfl, rfl⟩
            refine hK _ _ ?_
            clear hK K
            refine wpAny_ready (rs := [2]) (by kernel_rfl) (by simp) ?_
            refine AllReady.cons rfl (fun K hK => ?_) AllReady.nil
            go_simp
            refine hK _ _ ?_
            clear hK K
            refine wpAny_ready (rs := [3]) (by kernel_rfl) (by simp) ?_
            refine AllReady.cons rfl (fun K hK => ?_) AllReady.nil
            go_simp
            refine hK _ _ ?_
            clear hK K
            refine quiet_tail (by kernel_rfl) (by kernel_rfl) ?_
            repeat (first | go_big_quiet_step (fail) | quiet_step (fail))
            refine wpQuiet_nil ?_
            intro _ hw'
            obtain ⟨nq, hw''⟩ := hw'
            subst hw''
            go_wp2_with fail
            go_meet
            case rel => exact ⟨by rw [HA.out], met nq hnx hsz hown⟩
      case rest =>
        obtain ⟨rfl, hown2, hcs, hnx2, hsz2⟩ := hcut
        have hsz3 := hnx2.size
        cases hap : app X s with
        | true =>
          have HST2 : Hid (sig (ks.take (k + 1)) = X ++ [s]) := HST.out.trans (step_yes hap)
          clear hap hown hnil
          go_wp2_with (at_builtin; refine wpList_append_own _ rfl _ _ 27 rfl w.heap.size 9 i0 (.string ⟨#[]⟩) 1 16 Try.underlying27 hi hz0 hz1 hz2 rfl (by decide) _ _ _ rfl (World.ownsRow.alloc hown2.out _) ⟨wc.heap.size, 0, none⟩ 1 1 [.string s] rfl rfl (cell_one_new _ _ _) (by simp [Value.oneCell']) (by unfold maxLen; omega) (by omega) (by simp; omega) ?_; intro v' w3 hown3 hgrow3 _; have R := ow_snoc hnx2 (by omega) hown2.out hown3 hgrow3; clear hown3 hgrow3)
          have R1 : Hid (Ow w3 w.heap.size v' (sig (ks.take (k + 1)))) := by rw [HST2.out]; exact R.1
          have R2 : Hid (sig (ks.take (k + 1)) = [] → v' = .slice none 0 0) := by rw [HST2.out]; intro h; simp at h
          have R3 := R.2
          clear R
          go_wp2
          go_roundw
          case rel => exact ⟨k + 1, by omega, by go_num, R1, R2, R3⟩
          case measure => simp [intOf]; omega
        | false =>
          have HST2 : Hid (sig (ks.take (k + 1)) = X) := HST.out.trans (step_no hap)
          have R1 : Hid (Ow wc w.heap.size u3 (sig (ks.take (k + 1)))) := by rw [HST2.out]; exact hown2
          have R2 : Hid (sig (ks.take (k + 1)) = [] → u3 = .slice none 0 0) := by rw [HST2.out]; exact hnil
          clear hap hown hnil
          go_wp2
          go_roundw
          case rel => exact ⟨k + 1, by omega, by go_num, R1, R2, hnx2⟩
          case measure => simp [intOf]; omega
    · obtain rfl : k = len := by omega
      rw [List.take_of_length_le (by rw [HR.out.size]; exact Nat.le_refl _)] at hown hnil
      go_wp2
      go_ret
      exact ⟨_, rfl, hown.out, hnil.out, hnx⟩

end Go.Proofs.Qxb6629191a
