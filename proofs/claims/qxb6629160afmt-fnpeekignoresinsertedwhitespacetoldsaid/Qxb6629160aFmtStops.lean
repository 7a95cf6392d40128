/-
  Seat b6629160aF: the closed facts for a walk over fmt's two stopped fronts (functions 22 and 25 of the dump), after the guide's CheckFmt.lean; and the walks of 'syntaxError' and 'unexpected': whatever fmt's texts, an error that is not nil.
-/
import Derived.Test.Qxb6629160aFmtBase
import Derived.Stop.CallBack
import Derived.Deep.RegionLaw
import Derived.Stop.IfaceNil
namespace Go.Proofs.Qxb6629160aFmt
open Go.RowKit Go.Extern.Stop Go.Stop Go.Extern Js

theorem Tryf.call22 (args : Array Value) (w : World) : (callFunc 22 args).run Tryf.prog w = ((FmtStop.sprintf #[9, 44] #[9] args).run Tryf.prog w).andThen fun v w' => .ok (.value v) w' :=
  run_callFunc_extern Tryf.func22 (by kernel_rfl) (by kernel_rfl) (by kernel_rfl) (by kernel_rfl) args w
theorem Tryf.call25 (args : Array Value) (w : World) : (callFunc 25 args).run Tryf.prog w = ((FmtStop.errorf #[9, 44] #[30] args).run Tryf.prog w).andThen fun v w' => .ok (.value v) w' :=
  run_callFunc_extern Tryf.func25 (by kernel_rfl) (by kernel_rfl) (by kernel_rfl) (by kernel_rfl) args w
theorem Tryf.guard (name : String) (w : World) : (FmtStop.guard name).run Tryf.prog w = .ok () w := by kernel_rfl
-- '%s at offset %d', 2 operands
theorem Tryf.fmt0 : FmtStop.printed? ⟨#[37, 115, 32, 97, 116, 32, 111, 102, 102, 115, 101, 116, 32, 37, 100]⟩ 2 = some [(0, 115, false), (1, 100, false)] := by kernel_rfl
theorem Tryf.fmt0r (w : World) : (FmtDoors.printed ⟨#[37, 115, 32, 97, 116, 32, 111, 102, 102, 115, 101, 116, 32, 37, 100]⟩ 2).run Tryf.prog w = .ok [(0, 115, false), (1, 100, false)] w := by kernel_rfl
-- 'invalid character %q %s', 2 operands
theorem Tryf.fmt1 : FmtStop.printed? ⟨#[105, 110, 118, 97, 108, 105, 100, 32, 99, 104, 97, 114, 97, 99, 116, 101, 114, 32, 37, 113, 32, 37, 115]⟩ 2 = some [(0, 113, false), (1, 115, false)] := by kernel_rfl
theorem Tryf.fmt1r (w : World) : (FmtDoors.printed ⟨#[105, 110, 118, 97, 108, 105, 100, 32, 99, 104, 97, 114, 97, 99, 116, 101, 114, 32, 37, 113, 32, 37, 115]⟩ 2).run Tryf.prog w = .ok [(0, 113, false), (1, 115, false)] w := by kernel_rfl
-- what each operand type reads as
def Tryf.shape9 : List UInt8 := [12, 6, 0, 0, 0, 0, 0, 0, 0, 115, 116, 114, 105, 110, 103]
theorem Tryf.op9_115 (name : String) (x : ByteArray) (w : World) : (FmtStop.operand name false 115 false (.iface 9 (.string x))).run Tryf.prog w = .ok (Tryf.shape9, FmtStop.pack x.data.toList) w := by kernel_rfl
theorem Tryf.op9_115w (name : String) (x : ByteArray) (w : World) : (FmtStop.operand name true 115 false (.iface 9 (.string x))).run Tryf.prog w = .ok (Tryf.shape9, FmtStop.pack x.data.toList) w := by kernel_rfl
def Tryf.shape3 : List UInt8 := [5, 3, 0, 0, 0, 0, 0, 0, 0, 105, 110, 116]
theorem Tryf.op3_100w (name : String) (x : Int) (w : World) : (FmtStop.operand name true 100 false (.iface 3 (.int .i64 x))).run Tryf.prog w = .ok (Tryf.shape3, Go.Extern.Stop.digits 8 (x % 2 ^ 64).toNat) w := by kernel_rfl
def Tryf.shape5 : List UInt8 := [6, 5, 0, 0, 0, 0, 0, 0, 0, 117, 105, 110, 116, 56]
theorem Tryf.op5_113 (name : String) (x : Int) (w : World) : (FmtStop.operand name false 113 false (.iface 5 (.int .u8 x))).run Tryf.prog w = .ok (Tryf.shape5, Go.Extern.Stop.digits 8 (x % 2 ^ 64).toNat) w := by kernel_rfl
-- the error type that fmt.errorf makes
theorem Tryf.ptr46 (w : World) : (FmtStop.ptrTo "errors.errorString").run Tryf.prog w = .ok 46 w := by kernel_rfl
theorem Tryf.elem46 (w : World) : (elemOf 46).run Tryf.prog w = .ok 48 w := by kernel_rfl
theorem Tryf.isError46 (w : World) : (FmtDoors.textMethod 46 "Error").run Tryf.prog w = .ok true w := by kernel_rfl

attribute [local go_sem] Tryf.call22 Tryf.call25 Tryf.guard Tryf.fmt0 Tryf.fmt0r Tryf.fmt1 Tryf.fmt1r Tryf.op9_115 Tryf.op9_115w Tryf.op3_100w Tryf.op5_113 Tryf.ptr46 Tryf.elem46 Tryf.isError46

set_option maxHeartbeats 400000 in
theorem syntax_any (F : Interp) (g : Nat) (p : Int) (msg : ByteArray) (w : World) (hF : F.answers w.tape) (hp : w.cell? ⟨g, 1, none⟩ = some (.int .i64 p)) :
    Calls Tryf.prog 21 #[.pointer (some ⟨g, 0, none⟩), .string msg] w fun e w' => ∃ a, e = .returned (.iface 46 (.pointer (some a))) ∧ Below w.heap.size w w' := by
  have hF' := answers_open hF
  go_enter Tryf.func21, Tryf.ntmps21
  go_wp2
  go_ret
  exact ⟨_, rfl, (((Below.refl _ _).alloc (Nat.le_refl _) _).alloc (by simp) _).drew⟩

theorem vcell0 (w : World) (n : Nat) (x y : Value) : ((w.drewN n).alloc (.cells #[x, y] 20)).cell? ⟨w.heap.size, 0, none⟩ = some x := (World.cell?_alloc_at (w := w.drewN n) #[x, y] 20 w.heap.size 0 rfl).trans rfl
theorem vcell1 (w : World) (n : Nat) (x y : Value) : ((w.drewN n).alloc (.cells #[x, y] 20)).cell? ⟨w.heap.size, 1, none⟩ = some y := (World.cell?_alloc_at (w := w.drewN n) #[x, y] 20 w.heap.size 1 rfl).trans rfl

theorem past_block {w : World} {n : Nat} {o : Obj} {q : Addr} {v : Value} (h : w.cell? q = some v) : ((w.drewN n).alloc o).drew.cell? q = some v :=
  (((below_draw (Below.refl w.heap.size w) n).alloc (Nat.le_refl _) o).drew.cell (World.block_lt_of_cell? w q h)).trans h
theorem past_below {w w1 : World} {n : Nat} {o : Obj} (h : Below ((w.drewN n).alloc o).drew.heap.size ((w.drewN n).alloc o).drew w1) : Below w.heap.size w w1 :=
  (((below_draw (Below.refl w.heap.size w) n).alloc (Nat.le_refl _) o).drew).trans (h.mono (by simp))

set_option maxHeartbeats 1000000 in
theorem unexpected_any (F : Interp) (g : Nat) (a : Option Addr) (len cap : Nat) (zs : List Int) (p : Nat) (dep : Int) (mis : Bool) (S : Value) (wh : ByteArray) (w : World) (hF : F.answers w.tape)
    (hR : RdrAt w g (.slice a len cap) p dep mis S) (hrd : Rd w g a len cap zs) :
    Calls Tryf.prog 19 #[.pointer (some ⟨g, 0, none⟩), .string wh] w fun e w' => ∃ a, e = .returned (.iface 46 (.pointer (some a))) ∧ Below w.heap.size w w' := by
  obtain ⟨k0, k1, _, _, _, _⟩ := hR.cells
  have hgl := hR.lt
  by_cases hp : p < len
  · obtain ⟨b, off, rfl, hb, hc⟩ := hrd.cells (by omega)
    have kc := hc p hp
    clear hc hrd hR
    have hpi : (p : Int) < (len : Int) := by omega
    have hF' := answers_open hF
    go_enter Tryf.func19, Tryf.ntmps19
    go_wp2_with fail
    go_quiet (fail)
    go_wp2_with fail
    have hv0 := fun (n : Nat) (x y : Value) => vcell0 w n x y
    have hv1 := fun (n : Nat) (x y : Value) => vcell1 w n x y
    go_region_with (go_at_call 21; refine (syntax_any F g p _ _ ?_ ?_).mono ?_; (exact hF); (exact past_block k1); rintro e w1 ⟨x, rfl, hb1⟩; have R := past_below hb1; clear hb1)
    all_goals
      go_wp2
      go_ret
      exact ⟨_, rfl, by assumption⟩
  · have hpi : (len : Int) ≤ (p : Int) := by omega
    clear hrd hR
    go_enter Tryf.func19, Tryf.ntmps19
    go_wp2_with fail
    go_quiet (fail)
    go_wp2_with fail
    refine (syntax_any F g p _ (w.drewN nq) hF k1).mono ?_
    rintro e w1 ⟨x, rfl, hb1⟩
    go_wp2
    go_ret
    exact ⟨_, rfl, below_undraw hb1⟩

end Go.Proofs.Qxb6629160aFmt
