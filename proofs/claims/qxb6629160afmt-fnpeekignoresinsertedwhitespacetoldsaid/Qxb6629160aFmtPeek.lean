/-
  Seat b6629160aF: the walk of 'Peek', and of the thin functions that make a Reader and hand out its fields.
-/
import Derived.Test.Qxb6629160aFmtStops
import Derived.Test.Qxb6629160aFmtSkip
namespace Go.Proofs.Qxb6629160aFmt
open Go.RowKit Go.Extern.Stop Go.Stop Go.Extern Js

set_option maxHeartbeats 1000000 in
/-- Peek where the next byte is there and is not 0: it hands it back and leaves the reader as it was. -/
theorem Peek_yes (g : Nat) (a : Option Addr) (len cap : Nat) (zs : List Int) (p j : Nat) (dep : Int) (mis : Bool) (S : Value) (w : World)
    (hR : RdrAt w g (.slice a len cap) p dep mis S) (hrd : Rd w g a len cap zs) (hj : NextIs zs p j) (hm : len ≤ 1099511627776) (hc : zs[j]?.getD 0 ≠ 0) :
    Calls Tryf.prog 10 #[.pointer (some ⟨g, 0, none⟩)] w fun e w' => e = .returned (.tuple #[.int .u8 (zs[j]?.getD 0), .nilIface]) ∧ RdrAt w' g (.slice a len cap) p dep mis S ∧ w.grownBy w' (some g) := by
  have HJ : Hid (NextIs zs p j) := hj
  have HR : Hid (Rd w g a len cap zs) := hrd
  have HRR : Hid (RdrAt w g (.slice a len cap) p dep mis S) := hR
  obtain ⟨c0, c1, _, _, _, _⟩ := hR.cells
  have hc' : (zs[j]?.getD 0 == 0) = false := by simpa using hc
  clear hj hrd hR hc
  go_enter Tryf.func10, Tryf.ntmps10
  go_wp2_with fail
  refine (peek_any g a len cap zs p j dep mis S w HRR.out HR.out HJ.out hm).mono ?_
  rintro e w1 ⟨rfl, h1, hg1⟩
  have H1 : Hid (RdrAt w1 g (.slice a len cap) j dep mis S) := h1
  obtain ⟨d0, d1, _, _, _, df⟩ := h1.cells
  have f1 := df 1
  clear h1 df
  have R := H1.out.store (p : Int)
  have R1 : Hid (RdrAt (w1.setCell ⟨g, 1, none⟩ (.int .i64 (p : Int))) g (.slice a len cap) p dep mis S) := R.1
  have R2 := grown_trans hg1 R.2
  clear R
  go_wp2
  go_ret2
  exact ⟨rfl, R1.out, R2⟩

set_option maxHeartbeats 1000000 in
/-- Peek at the end, or at a byte 0: an error; the reader stands there. -/
theorem Peek_no (F : Interp) (g : Nat) (a : Option Addr) (len cap : Nat) (zs : List Int) (p j : Nat) (dep : Int) (mis : Bool) (S : Value) (w : World) (hF : F.answers w.tape)
    (hR : RdrAt w g (.slice a len cap) p dep mis S) (hrd : Rd w g a len cap zs) (hj : NextIs zs p j) (hm : len ≤ 1099511627776) (hc : zs[j]?.getD 0 = 0) :
    Calls Tryf.prog 10 #[.pointer (some ⟨g, 0, none⟩)] w fun e w' => ∃ x, e = .returned (.tuple #[.int .u8 0, .iface 46 (.pointer (some x))]) ∧ RdrAt w' g (.slice a len cap) j dep mis S ∧ w.grownBy w' (some g) := by
  have HJ : Hid (NextIs zs p j) := hj
  have HR : Hid (Rd w g a len cap zs) := hrd
  have HRR : Hid (RdrAt w g (.slice a len cap) p dep mis S) := hR
  have hgl := hR.lt
  obtain ⟨c0, c1, _, _, _, _⟩ := hR.cells
  have HC : Hid (zs[j]?.getD 0 = 0) := hc
  clear hj hrd hR hc
  go_enter Tryf.func10, Tryf.ntmps10
  go_wp2_with fail
  refine (peek_any g a len cap zs p j dep mis S w HRR.out HR.out HJ.out hm).mono ?_
  rintro e w1 ⟨rfl, h1, hg1⟩
  have H1 : Hid (RdrAt w1 g (.slice a len cap) j dep mis S) := h1
  have HF1 : Hid (F.answers w1.tape) := by show F.answers w1.tape; rw [hg1.tape]; exact hF
  clear h1
  rw [HC.out]
  go_wp2_with fail
  refine (unexpected_any F g a len cap zs j dep mis S _ w1 HF1.out H1.out (HR.out.later (grown_below hg1 (by omega)))).mono ?_
  rintro e w2 ⟨x, rfl, hb2⟩
  have hs := hg1.size
  have R1 : Hid (RdrAt w2 g (.slice a len cap) j dep mis S) := H1.out.below hb2 (by omega)
  have R2 : w.grownBy w2 (some g) := grown_trans hg1 (grown_of_below hb2)
  go_wp2
  go_ret2
  exact ⟨x, rfl, R1.out, R2⟩

set_option maxHeartbeats 400000 in
theorem new_any (D S : Value) (p dep : Int) (mis : Bool) (w : World) (a1 a2 : Option Addr) (l1 k1 l2 k2 : Nat) (hD : D = .slice a1 l1 k1) (hS : S = .slice a2 l2 k2) :
    Calls Tryf.prog 9 #[D, .int .i64 p, .int .i64 dep, .bool mis, S] w fun e w' => e = .returned (.pointer (some ⟨w.heap.size, 0, none⟩)) ∧ w' = w.alloc (.cells #[D, .int .i64 p, .int .i64 dep, .bool mis, S] 39) := by
  subst hD
  subst hS
  go_enter Tryf.func9, Tryf.ntmps9
  go_wp2
  go_ret
  exact ⟨rfl, rfl⟩

section
variable (g : Nat) (D S : Value) (p dep : Int) (mis : Bool) (w : World)

set_option maxHeartbeats 400000 in
theorem pos_any (hR : RdrAt w g D p dep mis S) : Calls Tryf.prog 11 #[.pointer (some ⟨g, 0, none⟩)] w fun e w' => e = .returned (.int .i64 p) ∧ w = w' := by
  obtain ⟨c0, c1, c2, c3, c4, _⟩ := hR.cells
  go_enter Tryf.func11, Tryf.ntmps11
  go_wp2
  go_ret
  exact ⟨rfl, rfl⟩

set_option maxHeartbeats 400000 in
theorem depth_any (hR : RdrAt w g D p dep mis S) : Calls Tryf.prog 12 #[.pointer (some ⟨g, 0, none⟩)] w fun e w' => e = .returned (.int .i64 dep) ∧ w = w' := by
  obtain ⟨c0, c1, c2, c3, c4, _⟩ := hR.cells
  go_enter Tryf.func12, Tryf.ntmps12
  go_wp2
  go_ret
  exact ⟨rfl, rfl⟩

set_option maxHeartbeats 400000 in
theorem mis_any (hR : RdrAt w g D p dep mis S) : Calls Tryf.prog 13 #[.pointer (some ⟨g, 0, none⟩)] w fun e w' => e = .returned (.bool mis) ∧ w = w' := by
  obtain ⟨c0, c1, c2, c3, c4, _⟩ := hR.cells
  go_enter Tryf.func13, Tryf.ntmps13
  go_wp2
  go_ret
  exact ⟨rfl, rfl⟩

set_option maxHeartbeats 400000 in
theorem data_any (hR : RdrAt w g D p dep mis S) : Calls Tryf.prog 15 #[.pointer (some ⟨g, 0, none⟩)] w fun e w' => e = .returned D ∧ w = w' := by
  obtain ⟨c0, c1, c2, c3, c4, _⟩ := hR.cells
  go_enter Tryf.func15, Tryf.ntmps15
  go_wp2
  go_ret
  exact ⟨rfl, rfl⟩

set_option maxHeartbeats 400000 in
theorem scratch_any (hR : RdrAt w g D p dep mis S) : Calls Tryf.prog 16 #[.pointer (some ⟨g, 0, none⟩)] w fun e w' => e = .returned S ∧ w = w' := by
  obtain ⟨c0, c1, c2, c3, c4, _⟩ := hR.cells
  go_enter Tryf.func16, Tryf.ntmps16
  go_wp2
  go_ret
  exact ⟨rfl, rfl⟩
end

end Go.Proofs.Qxb6629160aFmt
