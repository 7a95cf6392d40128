/-
  Seat b6629160aF: the walks of 'skipSpace', 'peekPastSpace', 'peek'.
-/
import Derived.Test.Qxb6629160aFmtBase
namespace Go.Proofs.Qxb6629160aFmt
open Go.RowKit Js

set_option maxHeartbeats 1000000 in
theorem skip_any (g : Nat) (a : Option Addr) (len cap : Nat) (zs : List Int) (p j : Nat) (dep : Int) (mis : Bool) (S : Value) (w : World)
    (hR : RdrAt w g (.slice a len cap) p dep mis S) (hrd : Rd w g a len cap zs) (hj : NextIs zs p j) (hm : len ≤ 1099511627776) :
    Calls Tryf.prog 23 #[.pointer (some ⟨g, 0, none⟩)] w fun e w' => e = .returned (.tuple #[]) ∧ RdrAt w' g (.slice a len cap) j dep mis S ∧ w.grownBy w' (some g) := by
  have HJ : Hid (NextIs zs p j) := hj
  have HR : Hid (Rd w g a len cap zs) := hrd
  have hjl : j ≤ len := by have := hj.le; have := hrd.size; omega
  have hpj := hj.ge
  have hgl := hR.lt
  clear hj hrd
  go_enter Tryf.func23, Tryf.ntmps23
  go_wp2_with fail
  go_loopg [] (j - p) (fun n wr => ∃ k : Nat, p ≤ k ∧ k ≤ j ∧ n = j - k ∧ Hid (RdrAt wr g (.slice a len cap) k dep mis S) ∧ w.grownBy wr (some g))
  case atStart => exact ⟨p, Nat.le_refl _, hpj, rfl, hR, ⟨rfl, rfl, rfl, Nat.le_refl _, fun _ _ _ => rfl⟩⟩
  case round =>
    obtain ⟨k, hk1, hk2, rfl, hRk, hgk⟩ := hrel
    obtain ⟨c0, c1, _, _, _, cf⟩ := hRk.out.cells
    have f1 := cf 1
    clear cf hR
    by_cases hlt : k < len
    · obtain ⟨b, off, rfl, hb, hc⟩ := HR.out.cells (by omega)
      have cc : wr.cell? ⟨b, off + k, none⟩ = some (.int .u8 (zs[k]?.getD 0)) := ((grown_below hgk (by omega)).cell (p := ⟨b, off + k, none⟩) hb).trans (hc k hlt)
      clear hc
      have hki : (k : Int) < (len : Int) := by omega
      by_cases hkj : k < j
      · have hs := isSp_true (HJ.out.blank k hk1 hkj)
        generalize zs[k]?.getD 0 = c at *
        have R1 : Hid (RdrAt (wr.setCell ⟨g, 1, none⟩ (.int .i64 ((k : Int) + 1))) g (.slice (some ⟨b, off, none⟩) len cap) ((k : Int) + 1) dep mis S) := (hRk.out.store _).1
        have R2 : w.grownBy (wr.setCell ⟨g, 1, none⟩ (.int .i64 ((k : Int) + 1))) (some g) := grown_trans hgk (hRk.out.store _).2
        rcases hs with rfl | rfl | rfl | rfl
        all_goals
          go_wp2_with fail
          go_quiet (fail)
          go_wp2_with fail
          go_quiet (fail)
          go_wp2
          go_roundg (j - (k + 1))
          case measure => omega
          case rel => exact ⟨k + 1, by omega, by omega, rfl, R1, grown_draw R2 _⟩
      · have : k = j := by omega
        subst this
        obtain ⟨s1, s2, s3, s4⟩ := isSp_false (HJ.out.stop (by have := HR.out.size; omega))
        generalize zs[k]?.getD 0 = c at *
        have t1 : (c == 32) = false := by simpa using s1
        have t2 : (c == 9) = false := by simpa using s2
        have t3 : (c == 10) = false := by simpa using s3
        have t4 : (c == 13) = false := by simpa using s4
        clear s1 s2 s3 s4
        go_wp2_with fail
        go_quiet (fail)
        go_wp2_with fail
        go_quiet (fail)
        go_wp2
        exact bodyPost_ret (v := .tuple #[]) (by simp [results, Tryf.results23, go_sem]) rfl ⟨rfl, hRk.out, grown_draw hgk _⟩
    · have : k = j := by omega
      subst this
      have hki : (len : Int) ≤ (k : Int) := by omega
      go_wp2_with fail
      go_quiet (fail)
      go_wp2
      go_end0
      exact ⟨rfl, hRk.out, grown_draw hgk _⟩

/-- a byte of the text, read in a later world -/
theorem byte_at {w w' : World} {g : Nat} {a : Option Addr} {len cap : Nat} {zs : List Int} (hrd : Rd w g a len cap zs) (hg : w.grownBy w' (some g)) (hl : g ≤ w.heap.size) {j : Nat} (hj : j < len) :
    ∃ b off, a = some ⟨b, off, none⟩ ∧ w'.cell? ⟨b, off + j, none⟩ = some (.int .u8 (zs[j]?.getD 0)) := by
  obtain ⟨b, off, ha, hb, hc⟩ := hrd.cells (by omega)
  exact ⟨b, off, ha, ((grown_below hg hl).cell (p := ⟨b, off + j, none⟩) hb).trans (hc j hj)⟩

set_option maxHeartbeats 1000000 in
theorem past_any (g : Nat) (a : Option Addr) (len cap : Nat) (zs : List Int) (p j : Nat) (dep : Int) (mis : Bool) (S : Value) (w : World)
    (hR : RdrAt w g (.slice a len cap) p dep mis S) (hrd : Rd w g a len cap zs) (hj : NextIs zs p j) (hm : len ≤ 1099511627776) :
    Calls Tryf.prog 20 #[.pointer (some ⟨g, 0, none⟩)] w fun e w' => e = .returned (.int .u8 (zs[j]?.getD 0)) ∧ RdrAt w' g (.slice a len cap) j dep mis S ∧ w.grownBy w' (some g) := by
  have HJ : Hid (NextIs zs p j) := hj
  have HR : Hid (Rd w g a len cap zs) := hrd
  have HRR : Hid (RdrAt w g (.slice a len cap) p dep mis S) := hR
  have hjl : j ≤ len := by have := hj.le; have := hrd.size; omega
  have hgl := hR.lt
  clear hj hrd hR
  go_enter Tryf.func20, Tryf.ntmps20
  go_wp2_with fail
  refine (skip_any g a len cap zs p j dep mis S w HRR.out HR.out HJ.out hm).mono ?_
  rintro e w1 ⟨rfl, h1, hg1⟩
  have H1 : Hid (RdrAt w1 g (.slice a len cap) j dep mis S) := h1
  obtain ⟨c0, c1, _, _, _, _⟩ := h1.cells
  clear h1
  by_cases hlt : j < len
  · obtain ⟨b, off, rfl, cc⟩ := byte_at HR.out hg1 (by omega) hlt
    have hki : (j : Int) < (len : Int) := by omega
    go_wp2_with fail
    go_quiet (fail)
    go_wp2_with fail
    go_quiet (fail)
    go_wp2
    go_ret
    exact ⟨rfl, H1.out, grown_draw (grown_draw hg1 _) _⟩
  · have hki : (len : Int) ≤ (j : Int) := by omega
    have H0 : Hid (zs[j]?.getD 0 = 0) := by show _ = _; rw [List.getElem?_eq_none (by have := HR.out.size; omega)]; rfl
    go_wp2_with fail
    go_quiet (fail)
    go_wp2
    go_ret
    exact ⟨by rw [H0.out]; rfl, H1.out, grown_draw hg1 _⟩

set_option maxHeartbeats 1000000 in
theorem peek_any (g : Nat) (a : Option Addr) (len cap : Nat) (zs : List Int) (p j : Nat) (dep : Int) (mis : Bool) (S : Value) (w : World)
    (hR : RdrAt w g (.slice a len cap) p dep mis S) (hrd : Rd w g a len cap zs) (hj : NextIs zs p j) (hm : len ≤ 1099511627776) :
    Calls Tryf.prog 18 #[.pointer (some ⟨g, 0, none⟩)] w fun e w' => e = .returned (.int .u8 (zs[j]?.getD 0)) ∧ RdrAt w' g (.slice a len cap) j dep mis S ∧ w.grownBy w' (some g) := by
  have HJ : Hid (NextIs zs p j) := hj
  have HR : Hid (Rd w g a len cap zs) := hrd
  have HRR : Hid (RdrAt w g (.slice a len cap) p dep mis S) := hR
  have hgl := hR.lt
  have hpl : p ≤ len := by have := hj.le; have := hj.ge; have := hrd.size; omega
  obtain ⟨c0, c1, _, _, _, _⟩ := hR.cells
  clear hj hrd hR
  by_cases hlt : p < len
  · obtain ⟨b, off, rfl, cc⟩ := byte_at HR.out (w' := w) ⟨rfl, rfl, rfl, Nat.le_refl _, fun _ _ _ => rfl⟩ (by omega) hlt
    have hki : (p : Int) < (len : Int) := by omega
    by_cases hc : 32 < zs[p]?.getD 0
    · have hjp : j = p := by
        have h1 := HJ.out.ge
        by_cases h2 : p < j
        · have := isSp_true (HJ.out.blank p (Nat.le_refl _) h2)
          omega
        · omega
      subst hjp
      generalize zs[j]?.getD 0 = c at *
      go_enter Tryf.func18, Tryf.ntmps18
      go_wp2_with fail
      go_quiet (fail)
      go_wp2_with fail
      go_quiet (fail)
      go_wp2
      go_ret
      exact ⟨rfl, HRR.out, grown_draw (grown_draw ⟨rfl, rfl, rfl, Nat.le_refl _, fun _ _ _ => rfl⟩ _) _⟩
    · have hc' : zs[p]?.getD 0 ≤ 32 := by omega
      obtain ⟨c, hcc⟩ : ∃ c, c = zs[p]?.getD 0 := ⟨_, rfl⟩
      rw [← hcc] at cc hc'
      clear hc hcc
      go_enter Tryf.func18, Tryf.ntmps18
      go_wp2_with fail
      go_quiet (fail)
      go_wp2_with fail
      refine (past_any g _ len cap zs p j dep mis S (w.drewN nq) HRR.out (HR.out.draw nq) HJ.out hm).mono ?_
      rintro e w1 ⟨rfl, h1, hg1⟩
      go_wp2
      go_ret
      exact ⟨rfl, h1, ⟨hg1.os, hg1.tape, hg1.output, hg1.size, hg1.block⟩⟩
  · have hd : decide ((p : Int) < (len : Int)) = false := decide_eq_false (by omega)
    go_enter Tryf.func18, Tryf.ntmps18
    go_wp2_with fail
    go_quiet (fail)
    go_wp2_with fail
    refine (past_any g _ len cap zs p j dep mis S (w.drewN nq) HRR.out (HR.out.draw nq) HJ.out hm).mono ?_
    rintro e w1 ⟨rfl, h1, hg1⟩
    go_wp2
    go_ret
    exact ⟨rfl, h1, ⟨hg1.os, hg1.tape, hg1.output, hg1.size, hg1.block⟩⟩

end Go.Proofs.Qxb6629160aFmt
