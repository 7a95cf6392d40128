/-
  Seat b6629160aF: what the walks are told of a slice of bytes ('Rd') and of a Reader in memory ('RdrAt').
-/
import Derived.Test.Qxb6629160aFmtCards
import Derived.Test.Qxb6629160aFmtPlain
import Derived.WalkKit
import Derived.WalkSpells
import Derived.WalkLawsBesides
import Derived.RegionTactic
import Derived.Deep.QuietTactic
import Derived.Deep.RegionWith
import Derived.Deep.DeepCutAuto
import Derived.BigQuiet
import Derived.OpenShut
namespace Go.Proofs.Qxb6629160aFmt
open Go.RowKit Js

theorem Tryf.info5 : (Tryf.prog.info? 5).map (fun i => (i.zero, i.size, i.bytes)) = some (some (.int .u8 0), 1, 1) := by kernel_rfl

/-- A SLICE THAT READS AS THE BYTES zs: its blocks lie below B. -/
structure Rd (w : World) (B : Nat) (a : Option Addr) (len cap : Nat) (zs : List Int) : Prop where
  size : zs.length = len
  fits : len ≤ cap
  bytes : Bytes zs
  nil0 : a = none → cap = 0
  cells : 0 < len → ∃ b off, a = some ⟨b, off, none⟩ ∧ b < B ∧ ∀ i, i < len → w.cell? ⟨b, off + i, none⟩ = some (.int .u8 (zs[i]?.getD 0))

theorem Rd.later {w w' : World} {B : Nat} {a : Option Addr} {len cap : Nat} {zs : List Int} (h : Rd w B a len cap zs) (hb : Below B w w') : Rd w' B a len cap zs := by
  refine ⟨h.size, h.fits, h.bytes, h.nil0, fun hl => ?_⟩
  obtain ⟨b, off, ha, hbB, hc⟩ := h.cells hl
  exact ⟨b, off, ha, hbB, fun i hi => (hb.cell (p := ⟨b, off + i, none⟩) hbB).trans (hc i hi)⟩

theorem Rd.wider {w : World} {B B' : Nat} {a : Option Addr} {len cap : Nat} {zs : List Int} (h : Rd w B a len cap zs) (hb : B ≤ B') : Rd w B' a len cap zs := by
  refine ⟨h.size, h.fits, h.bytes, h.nil0, fun hl => ?_⟩
  obtain ⟨b, off, ha, hbB, hc⟩ := h.cells hl
  exact ⟨b, off, ha, by omega, hc⟩

theorem Rd.draw {w : World} {B : Nat} {a : Option Addr} {len cap : Nat} {zs : List Int} (h : Rd w B a len cap zs) (n : Nat) : Rd (w.drewN n) B a len cap zs := ⟨h.size, h.fits, h.bytes, h.nil0, h.cells⟩

/-- A READER IN MEMORY: the block g. -/
def RdrAt (w : World) (g : Nat) (D : Value) (p dep : Int) (mis : Bool) (S : Value) : Prop := w.heap[g]? = some (.cells #[D, .int .i64 p, .int .i64 dep, .bool mis, S] 39 (0, 0))

theorem RdrAt.cells {w : World} {g : Nat} {D S : Value} {p dep : Int} {mis : Bool} (h : RdrAt w g D p dep mis S) :
    w.cell? ⟨g, 0, none⟩ = some D ∧ w.cell? ⟨g, 1, none⟩ = some (.int .i64 p) ∧ w.cell? ⟨g, 2, none⟩ = some (.int .i64 dep) ∧ w.cell? ⟨g, 3, none⟩ = some (.bool mis) ∧ w.cell? ⟨g, 4, none⟩ = some S ∧ (∀ o, w.frozen? ⟨g, o, none⟩ = false) :=
  ⟨by rw [cell_of_row w g 0 _ _ _ h]; rfl, by rw [cell_of_row w g 1 _ _ _ h]; rfl, by rw [cell_of_row w g 2 _ _ _ h]; rfl, by rw [cell_of_row w g 3 _ _ _ h]; rfl, by rw [cell_of_row w g 4 _ _ _ h]; rfl, fun o => frozen_of_row w g o _ _ h⟩

theorem RdrAt.lt {w : World} {g : Nat} {D S : Value} {p dep : Int} {mis : Bool} (h : RdrAt w g D p dep mis S) : g < w.heap.size := (Array.getElem?_eq_some_iff.1 h).1

theorem RdrAt.draw {w : World} {g : Nat} {D S : Value} {p dep : Int} {mis : Bool} (h : RdrAt w g D p dep mis S) (n : Nat) : RdrAt (w.drewN n) g D p dep mis S := h

/-- a store into the place 'pos' -/
theorem RdrAt.store {w : World} {g : Nat} {D S : Value} {p dep : Int} {mis : Bool} (h : RdrAt w g D p dep mis S) (q : Int) : RdrAt (w.setCell ⟨g, 1, none⟩ (.int .i64 q)) g D q dep mis S ∧ w.grownBy (w.setCell ⟨g, 1, none⟩ (.int .i64 q)) (some g) :=
  ⟨by
    show (w.setCell ⟨g, 1, none⟩ (.int .i64 q)).heap[g]? = _
    rw [heap_setCell_same w g 1 _ _ _ h]; rfl, ⟨rfl, rfl, rfl, by simp, fun k _ hk => heap_setCell_other w ⟨g, 1, none⟩ k _ (fun e => hk (by simp [e]))⟩⟩

/-- the reader below a frame -/
theorem RdrAt.kept {w w' : World} {g : Nat} {D S : Value} {p dep : Int} {mis : Bool} {row : Option Nat} (h : RdrAt w g D p dep mis S) (hg : w.grownBy w' row) (hne : some g ≠ row) : RdrAt w' g D p dep mis S := by
  show w'.heap[g]? = _
  rw [hg.block g h.lt hne]; exact h

theorem RdrAt.below {w w' : World} {g B : Nat} {D S : Value} {p dep : Int} {mis : Bool} (h : RdrAt w g D p dep mis S) (hb : Below B w w') (hB : g < B) : RdrAt w' g D p dep mis S := by
  show w'.heap[g]? = _
  rw [hb.block g hB]; exact h

theorem grown_below {w w' : World} {g : Nat} (hg : w.grownBy w' (some g)) (hl : g ≤ w.heap.size) : Below g w w' :=
  ⟨hg.os, hg.tape, hg.output, hg.size, fun k hk => hg.block k (by omega) (fun e => by cases e; omega)⟩

theorem grown_trans {a b c : World} {g : Nat} (h : a.grownBy b (some g)) (k : b.grownBy c (some g)) : a.grownBy c (some g) :=
  ⟨k.os.trans h.os, k.tape.trans h.tape, k.output.trans h.output, Nat.le_trans h.size k.size, fun i hi hne => (k.block i (Nat.lt_of_lt_of_le hi h.size) hne).trans (h.block i hi hne)⟩

theorem grown_draw {a b : World} {row : Option Nat} (h : a.grownBy b row) (n : Nat) : a.grownBy (b.drewN n) row := ⟨h.os, h.tape, h.output, h.size, h.block⟩
theorem grown_of_below {a b : World} {row : Option Nat} (h : Below a.heap.size a b) : a.grownBy b row := ⟨h.os, h.tape, h.output, h.size, fun k hk _ => h.block k hk⟩
theorem below_draw {B : Nat} {a w : World} (h : Below B a w) (n : Nat) : Below B a (w.drewN n) := ⟨h.os, h.tape, h.output, h.size, h.block⟩

theorem below_undraw {w w' : World} {n : Nat} (h : Below (w.drewN n).heap.size (w.drewN n) w') : Below w.heap.size w w' := ⟨h.os, h.tape, h.output, h.size, h.block⟩

end Go.Proofs.Qxb6629160aFmt
