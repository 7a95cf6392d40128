/-
  Seat b6629084a: the contracts once more, in the form in which the two laws take them: every slice that a call hands back is read at once.
-/
import Derived.Test.Qxb6629084aDecode
import Derived.Test.Qxb6629084aEqual
import Derived.OpenShut
namespace Go.Proofs.Qxb6629084a
open Go.RowKit Esc

/-- What a slice is told by, in the world as it stands. -/
def RdN (w : World) (a : Option Addr) (len cap : Nat) (zs : List Int) : Prop := Rd w w.heap.size a len cap zs

theorem RdN.step {w w' : World} {a : Option Addr} {len cap : Nat} {zs : List Int} (h : RdN w a len cap zs) {B : Nat} (hb : Below B w w') (hB : w.heap.size ≤ B) : RdN w' a len cap zs :=
  (Rd.later h (hb.mono hB)).wider hb.size

theorem RdN.draw {w : World} {a : Option Addr} {len cap : Nat} {zs : List Int} (h : RdN w a len cap zs) (n : Nat) : RdN (w.drewN n) a len cap zs := ⟨h.size, h.fits, h.bytes, h.nil0, h.cells⟩

theorem own_rd {w : World} {B : Nat} {v : Value} {xs : List Int} (h : Own w B v xs) (hx : Bytes xs) : ∃ a cap, v = .slice a xs.length cap ∧ RdN w a xs.length cap xs := by
  rcases h.2 with ⟨rfl, hn⟩ | ⟨g, cap, cur, rfl, hb, hg, hnc, _, hcs, htake⟩
  · refine ⟨none, 0, by rw [hn], ⟨rfl, by omega, hx, fun _ => rfl, fun hl => ?_⟩⟩
    omega
  · refine ⟨_, cap, rfl, ⟨rfl, hnc, hx, fun h => (by cases h), fun hl => ⟨g, 0, rfl, (Array.getElem?_eq_some_iff.1 hg).1, fun i hi => ?_⟩⟩⟩
    have hc := h.cellAt i (by omega)
    rw [Nat.zero_add, hc, List.getElem?_map, List.getElem?_eq_getElem hi]
    simp

theorem bytes_nil : Bytes [] := fun x hx => by simp at hx
theorem bytes_append {a b : List Int} (ha : Bytes a) (hb : Bytes b) : Bytes (a ++ b) := fun x hx => (List.mem_append.1 hx).elim (ha x) (hb x)

/-- Append onto what the call owns. -/
theorem append_rd (v : Value) (xs : List Int) (a : Option Addr) (len cap : Nat) (zs : List Int) (B : Nat) (w : World)
    (hown : Own w B v xs) (hxs : Bytes xs) (hrd : Rd w B a len cap zs) (hB : B ≤ w.heap.size) (hx : xs.length ≤ 1099511627776) (hm : len ≤ 1099511627776) :
    Calls Try.prog 6 #[v, .slice a len cap] w fun e w' => ∃ a' n' c', e = .returned (.slice a' n' c') ∧ n' = xs.length + (enc zs).length ∧ Own w' B (.slice a' n' c') (xs ++ enc zs) ∧ RdN w' a' n' c' (xs ++ enc zs) ∧ Below B w w' := by
  refine (append_any v xs a len cap zs B w hown hrd hB hx hm).mono ?_
  rintro e w' ⟨v', rfl, ho, hb⟩
  obtain ⟨a', c', rfl, hr⟩ := own_rd ho (bytes_append hxs (bytes_enc hrd.bytes))
  exact ⟨a', _, c', rfl, by simp, ho, hr, hb⟩

/-- Append onto nil. -/
theorem append_nil_rd (a : Option Addr) (len cap : Nat) (zs : List Int) (w : World) (hrd : RdN w a len cap zs) (hm : len ≤ 1099511627776) :
    Calls Try.prog 6 #[.slice none 0 0, .slice a len cap] w fun e w' => ∃ a' n' c', e = .returned (.slice a' n' c') ∧ n' = (enc zs).length ∧ RdN w' a' n' c' (enc zs) ∧ Below w.heap.size w w' := by
  refine (append_rd _ [] a len cap zs w.heap.size w (World.ownsRow_nil _ _ _ _) bytes_nil hrd (Nat.le_refl _) (by simp) hm).mono ?_
  rintro e w' ⟨a', n', c', rfl, hn, _, hr, hb⟩
  exact ⟨a', n', c', rfl, by simpa using hn, by simpa using hr, hb⟩

theorem clone_rd (a : Option Addr) (len cap : Nat) (zs : List Int) (w : World) (hrd : RdN w a len cap zs) (hm : len ≤ 1099511627776) :
    Calls Try.prog 7 #[.slice a len cap] w fun e w' => ∃ a' c', e = .returned (.slice a' len c') ∧ Own w' w.heap.size (.slice a' len c') zs ∧ RdN w' a' len c' zs ∧ Below w.heap.size w w' := by
  refine (clone_any a len cap zs w.heap.size w hrd (Nat.le_refl _) hm).mono ?_
  rintro e w' ⟨v, rfl, ho, hb⟩
  obtain ⟨a', c', rfl, hr⟩ := own_rd ho hrd.bytes
  rw [hrd.size] at ho hr ⊢
  exact ⟨a', c', rfl, ho, hr, hb⟩

theorem decode_rd (a : Option Addr) (len cap : Nat) (bs : List Int) (strict : Bool) (w : World) (hrd : RdN w a len cap (enc bs)) (hbs : Bytes bs) (hm : len ≤ 4398046511104) :
    Calls Try.prog 9 #[.slice a len cap, .bool strict] w fun e w' => ∃ a' n' c', e = .returned (.tuple #[.slice a' n' c', .bool true]) ∧ n' = bs.length ∧ RdN w' a' n' c' bs ∧ Below w.heap.size w w' := by
  refine (decode_any a len cap bs strict w.heap.size w hrd hbs (Nat.le_refl _) hm).mono ?_
  rintro e w' ⟨v, rfl, ho, hb⟩
  obtain ⟨a', c', rfl, hr⟩ := own_rd ho hbs
  exact ⟨a', _, c', rfl, rfl, hr, hb⟩

/-- two that read alike -/
theorem equal_yes (a1 : Option Addr) (l1 c1 : Nat) (z1 : List Int) (a2 : Option Addr) (l2 c2 : Nat) (z2 : List Int) (w : World) (h1 : RdN w a1 l1 c1 z1) (h2 : RdN w a2 l2 c2 z2) (hm : l1 ≤ 4611686018427387904) (he : z1 = z2) :
    Calls Try.prog 8 #[.slice a1 l1 c1, .slice a2 l2 c2] w fun e w' => e = .returned (.bool true) ∧ ∃ n, w' = w.drewN n := by
  have h := equal_any a1 l1 c1 z1 a2 l2 c2 z2 w.heap.size w h1 h2 hm
  rw [show decide (z1 = z2) = true from decide_eq_true he] at h
  exact h

theorem below_draw {B : Nat} {a w : World} (h : Below B a w) (n : Nat) : Below B a (w.drewN n) := ⟨h.os, h.tape, h.output, h.size, h.block⟩

set_option maxHeartbeats 1000000 in
/-- the bound on the arguments' lengths: some answer, and nothing turns -/
theorem bytes_canon (a1 : Option Addr) (l1 c1 : Nat) (a2 : Option Addr) (l2 c2 : Nat) (w : World) :
    Calls Try.prog 10 #[.slice a1 l1 c1, .slice a2 l2 c2] w fun e w' => ∃ r : Bool, e = .returned (.bool r) ∧ w = w' := by
  go_enter Try.func10, Try.ntmps10
  go_wp2
  all_goals
    go_ret
    exact ⟨_, rfl, rfl⟩

set_option maxHeartbeats 1000000 in
theorem bytes_split (a1 : Option Addr) (l1 c1 : Nat) (a2 : Option Addr) (l2 c2 : Nat) (i : Int) (w : World) :
    Calls Try.prog 5 #[.slice a1 l1 c1, .slice a2 l2 c2, .int .i64 i] w fun e w' => ∃ r : Bool, e = .returned (.bool r) ∧ w = w' := by
  go_enter Try.func5, Try.ntmps5
  go_wp2
  all_goals
    go_ret
    exact ⟨_, rfl, rfl⟩

/-- WHAT THE WALK IS TOLD OF A SLICE OF INTEGERS THAT CAME IN (the shell's own words). -/
def IsRow (k : IntKind) (w : World) (a : Option Addr) (len cap : Nat) (zs : List Int) : Prop :=
  (a = none ∧ len = 0 ∧ cap = 0 ∧ zs = []) ∨
  ∃ x, a = some x ∧ len ≤ cap ∧ cap ≤ maxLen ∧ zs.length = cap ∧ (∀ i, i < zs.length → w.cell? (x.add i) = some (.int k (zs.getD i 0))) ∧ ∀ n ∈ zs, (Lit.int k n).wf = true

theorem rd_of_row {w : World} {a : Option Addr} {len cap : Nat} {zs : List Int} (h : IsRow .u8 w a len cap zs) : RdN w a len cap (zs.take len) := by
  rcases h with ⟨rfl, rfl, rfl, rfl⟩ | ⟨x, rfl, hl, _, hz, hc, hw⟩
  · exact ⟨rfl, Nat.le_refl _, fun x hx => by simp at hx, fun _ => rfl, fun h => absurd h (Nat.lt_irrefl _)⟩
  · refine ⟨by simp; omega, hl, fun y hy => ?_, fun h => (by cases h), fun h0 => ?_⟩
    · have := hw y (List.mem_of_mem_take hy)
      have hb := bounds_u8 this
      omega
    · obtain ⟨b, off, spot⟩ := x
      have h00 := hc 0 (by omega)
      have hspot : spot = none := by simpa [Addr.add] using World.cell?_spot h00
      subst hspot
      refine ⟨b, off, rfl, ?_, fun i hi => ?_⟩
      · have := World.block_lt_of_cell? w _ h00
        simpa [Addr.add_lit] using this
      · have := hc i (by omega)
        rw [Addr.add_lit] at this
        rw [this, List.getElem?_take, if_pos hi]
        simp [List.getD]

end Go.Proofs.Qxb6629084a
