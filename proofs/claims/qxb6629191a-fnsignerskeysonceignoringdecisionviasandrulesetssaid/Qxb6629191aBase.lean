/-
  Seat b6629191a: what the walks are told of a slice of steps ('Pr') and of a slice of strings ('Ss'); 'names' as the program reckons it.
-/
import Derived.Test.Qxb6629191aRows
import Derived.Test.Qxb6629191aPlain
import Derived.WalkKit
import Derived.WalkSpells
import Derived.WalkLawsBesides
import Derived.RegionTactic
import Derived.Deep.QuietTactic
import Derived.Deep.RegionWith
import Derived.Deep.DeepCutAuto
import Derived.BigQuiet
namespace Go.Proofs.Qxb6629191a
open Go.RowKit Sg

theorem Try.info9 : (Try.prog.info? 9).map (fun i => (i.zero, i.size, i.bytes)) = some (some (.string ⟨#[]⟩), 1, 16) := by kernel_rfl
theorem Try.info32 : (Try.prog.info? 32).map (fun i => (i.zero, i.size, i.bytes)) = some (some (.agg #[.string ⟨#[]⟩, .string ⟨#[]⟩]), 2, 32) := by kernel_rfl

abbrev E0 : ByteArray := ⟨#[]⟩

/-- A SLICE OF STEPS: the keys ks, the vias vs; its blocks lie below B. -/
structure Pr (w : World) (B : Nat) (a : Option Addr) (len cap : Nat) (ks vs : List ByteArray) : Prop where
  size : ks.length = len
  sizev : vs.length = len
  fits : len ≤ cap
  nil0 : a = none → cap = 0
  cells : 0 < len → ∃ b off, a = some ⟨b, off, none⟩ ∧ b < B ∧ ∀ i, i < len → w.cell? ⟨b, off + i * 2, none⟩ = some (.string (ks[i]?.getD E0)) ∧ w.cell? ⟨b, off + i * 2 + 1, none⟩ = some (.string (vs[i]?.getD E0))

theorem Pr.later {w w' : World} {B : Nat} {a : Option Addr} {len cap : Nat} {ks vs : List ByteArray} (h : Pr w B a len cap ks vs) (hb : Below B w w') : Pr w' B a len cap ks vs := by
  refine ⟨h.size, h.sizev, h.fits, h.nil0, fun hl => ?_⟩
  obtain ⟨b, off, ha, hbB, hc⟩ := h.cells hl
  exact ⟨b, off, ha, hbB, fun i hi => ⟨(hb.cell (p := ⟨b, off + i * 2, none⟩) hbB).trans (hc i hi).1, (hb.cell (p := ⟨b, off + i * 2 + 1, none⟩) hbB).trans (hc i hi).2⟩⟩

theorem Pr.wider {w : World} {B B' : Nat} {a : Option Addr} {len cap : Nat} {ks vs : List ByteArray} (h : Pr w B a len cap ks vs) (hb : B ≤ B') : Pr w B' a len cap ks vs := by
  refine ⟨h.size, h.sizev, h.fits, h.nil0, fun hl => ?_⟩
  obtain ⟨b, off, ha, hbB, hc⟩ := h.cells hl
  exact ⟨b, off, ha, by omega, hc⟩

/-- A SLICE OF STRINGS. -/
structure Ss (w : World) (B : Nat) (a : Option Addr) (len cap : Nat) (ks : List ByteArray) : Prop where
  size : ks.length = len
  fits : len ≤ cap
  cells : 0 < len → ∃ b off, a = some ⟨b, off, none⟩ ∧ b < B ∧ ∀ i, i < len → w.cell? ⟨b, off + i, none⟩ = some (.string (ks[i]?.getD E0))

theorem Ss.later {w w' : World} {B : Nat} {a : Option Addr} {len cap : Nat} {ks : List ByteArray} (h : Ss w B a len cap ks) (hb : Below B w w') : Ss w' B a len cap ks := by
  refine ⟨h.size, h.fits, fun hl => ?_⟩
  obtain ⟨b, off, ha, hbB, hc⟩ := h.cells hl
  exact ⟨b, off, ha, hbB, fun i hi => (hb.cell (p := ⟨b, off + i, none⟩) hbB).trans (hc i hi)⟩

theorem Ss.wider {w : World} {B B' : Nat} {a : Option Addr} {len cap : Nat} {ks : List ByteArray} (h : Ss w B a len cap ks) (hb : B ≤ B') : Ss w B' a len cap ks := by
  refine ⟨h.size, h.fits, fun hl => ?_⟩
  obtain ⟨b, off, ha, hbB, hc⟩ := h.cells hl
  exact ⟨b, off, ha, by omega, hc⟩

theorem below_draw {B : Nat} {a w : World} (h : Below B a w) (n : Nat) : Below B a (w.drewN n) := ⟨h.os, h.tape, h.output, h.size, h.block⟩

set_option maxHeartbeats 400000 in
/-- 'zzNamesRuleSet' -/
theorem names_any (s : ByteArray) (w : World) (hs : s.size ≤ maxLen) : Calls Try.prog 9 #[.string s] w fun e w' => e = .returned (.bool (names s)) ∧ w = w' := by
  unfold maxLen at hs
  by_cases h : 5 ≤ s.size
  · have e : names s = ((s.extract 0 5).toList == [100, 97, 114, 99, 58]) := by simp [names, h]
    rw [e]
    clear e
    have hi : (5 : Int) ≤ (s.size : Int) := by omega
    go_enter Try.func9, Try.ntmps9
    go_wp2
    go_ret
    exact ⟨rfl, rfl⟩
  · have e : names s = false := by simp [names, h]
    rw [e]
    clear e
    have hd : decide ((5 : Int) ≤ (s.size : Int)) = false := decide_eq_false (by omega)
    go_enter Try.func9, Try.ntmps9
    go_wp2
    go_ret
    exact ⟨rfl, rfl⟩

set_option maxHeartbeats 400000 in
/-- 'KeyStep.delegates': it lays its receiver in a block of its own -/
theorem dele_any (s v : ByteArray) (w : World) (hs : s.size ≤ maxLen) : Calls Try.prog 13 #[.agg #[.string s, .string v]] w fun e w' => e = .returned (.bool (names s)) ∧ w' = w.alloc (.cells #[.string s, .string v] 32) := by
  unfold maxLen at hs
  by_cases h : 5 ≤ s.size
  · have e : names s = ((s.extract 0 5).toList == [100, 97, 114, 99, 58]) := by simp [names, h]
    rw [e]
    clear e
    have hi : (5 : Int) ≤ (s.size : Int) := by omega
    go_enter Try.func13, Try.ntmps13
    go_wp2
    go_ret
    exact ⟨rfl, rfl⟩
  · have e : names s = false := by simp [names, h]
    rw [e]
    clear e
    have hd : decide ((5 : Int) ≤ (s.size : Int)) = false := decide_eq_false (by omega)
    go_enter Try.func13, Try.ntmps13
    go_wp2
    go_ret
    exact ⟨rfl, rfl⟩

end Go.Proofs.Qxb6629191a
