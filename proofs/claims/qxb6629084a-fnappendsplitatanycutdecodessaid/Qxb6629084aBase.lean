/-
  Seat b6629084a: what the walks are told of a slice of bytes ('Rd'), and the small functions' contracts.
-/
import Derived.Test.Qxb6629084aRows
import Derived.Test.Qxb6629084aPlain
import Derived.WalkKit
import Derived.WalkSpells
import Derived.WalkLawsBesides
import Derived.RegionTactic
import Derived.Deep.QuietTactic
import Derived.BigQuiet
namespace Go.Proofs.Qxb6629084a
open Go.RowKit Esc

theorem Try.info5 : (Try.prog.info? 5).map (fun i => (i.zero, i.size, i.bytes)) = some (some (.int .u8 0), 1, 1) := by kernel_rfl

/-- A SLICE THAT READS AS THE BYTES zs: its blocks lie below B. -/
structure Rd (w : World) (B : Nat) (a : Option Addr) (len cap : Nat) (zs : List Int) : Prop where
  size : zs.length = len
  fits : len ≤ cap
  bytes : Bytes zs
  nil0 : a = none → cap = 0
  cells : 0 < len → ∃ b off, a = some ⟨b, off, none⟩ ∧ b < B ∧ ∀ i, i < len → w.cell? ⟨b, off + i, none⟩ = some (.int .u8 (zs[i]?.getD 0))

theorem Rd.later {w w' : World} {B : Nat} {a : Option Addr} {len cap : Nat} {zs : List Int} (h : Rd w B a len cap zs) (hb : Below B w w') : Rd w' B a len cap zs := by
  refine ⟨h.size, h.fits, h.bytes, h.nil0, fun hl => ?_⟩
  obtain ⟨b, off, ha, hbB, hc⟩ := h.cells hl
  exact ⟨b, off, ha, hbB, fun i hi => (hb.cell (p := ⟨b, off + i, none⟩) hbB).trans (hc i hi)⟩

theorem Rd.wider {w : World} {B B' : Nat} {a : Option Addr} {len cap : Nat} {zs : List Int} (h : Rd w B a len cap zs) (hb : B ≤ B') : Rd w B' a len cap zs := by
  refine ⟨h.size, h.fits, h.bytes, h.nil0, fun hl => ?_⟩
  obtain ⟨b, off, ha, hbB, hc⟩ := h.cells hl
  exact ⟨b, off, ha, by omega, hc⟩

set_option maxHeartbeats 400000 in
theorem plain_yes (c : Int) (w : World) (h : plainB c = true) : Calls Try.prog 11 #[.int .u8 c] w fun e w' => e = .returned (.bool true) ∧ w = w' := by
  obtain ⟨h1, h2, h3⟩ := plainB_true h
  have h4 : (c != 92) = true := by simpa using h3
  clear h h3
  go_enter Try.func11, Try.ntmps11
  go_wp2
  go_ret
  exact ⟨rfl, rfl⟩

set_option maxHeartbeats 400000 in
theorem plain_no (c : Int) (w : World) (h : plainB c = false) : Calls Try.prog 11 #[.int .u8 c] w fun e w' => e = .returned (.bool false) ∧ w = w' := by
  have hc := plainB_false h
  clear h
  rcases hc with h1 | h1 | h1
  · go_enter Try.func11, Try.ntmps11
    go_wp2
    go_ret
    exact ⟨rfl, rfl⟩
  · have h2 : 33 ≤ c := by omega
    go_enter Try.func11, Try.ntmps11
    go_wp2
    go_ret
    exact ⟨rfl, rfl⟩
  · subst h1
    go_enter Try.func11, Try.ntmps11
    go_wp2
    go_ret
    exact ⟨rfl, rfl⟩

set_option maxHeartbeats 400000 in
theorem self_yes (c : Int) (w : World) (h : plainB c = true) : Calls Try.prog 12 #[.int .u8 c] w fun e w' => e = .returned (.bool true) ∧ w = w' := by
  obtain ⟨h1, h2, h3⟩ := plainB_true h
  have h4 : (c != 92) = true := by simpa using h3
  clear h h3
  go_enter Try.func12, Try.ntmps12
  go_wp2
  go_ret
  exact ⟨rfl, rfl⟩

set_option maxHeartbeats 400000 in
theorem self_no (c : Int) (w : World) (h : plainB c = false) : Calls Try.prog 12 #[.int .u8 c] w fun e w' => e = .returned (.bool false) ∧ w = w' := by
  have hc := plainB_false h
  clear h
  rcases hc with h1 | h1 | h1
  · go_enter Try.func12, Try.ntmps12
    go_wp2
    go_ret
    exact ⟨rfl, rfl⟩
  · have h2 : 33 ≤ c := by omega
    go_enter Try.func12, Try.ntmps12
    go_wp2
    go_ret
    exact ⟨rfl, rfl⟩
  · subst h1
    go_enter Try.func12, Try.ntmps12
    go_wp2
    go_ret
    exact ⟨rfl, rfl⟩

set_option maxHeartbeats 400000 in
/-- a lowercase hex digit is read back, whatever 'upperOK' -/
theorem hex_any (c d : Int) (up : Bool) (w : World) (h0 : 0 ≤ d) (h1 : d < 16) (hc : Hid (c = hexd d)) : Calls Try.prog 13 #[.int .u8 c, .bool up] w fun e w' => e = .returned (.tuple #[.int .u8 d, .bool true]) ∧ w = w' := by
  have hr := hexd_range h0 h1
  rw [← hc.out] at hr
  clear hc
  rcases hr with ⟨r1, r2, r3⟩ | ⟨r1, r2, r3⟩
  · have r4 : c = d + 48 := by omega
    clear r3
    subst r4
    go_enter Try.func13, Try.ntmps13
    go_wp2
    go_ret2
    exact ⟨rfl, rfl⟩
  · have r4 : c = d + 87 := by omega
    clear r3
    subst r4
    go_enter Try.func13, Try.ntmps13
    go_wp2
    go_ret2
    exact ⟨by rw [show d + 87 - 97 + 10 = d by omega]; rfl, rfl⟩

end Go.Proofs.Qxb6629084a
