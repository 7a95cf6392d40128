/-
  Seat b6629160aF: the law's own small functions: zzIsJSONSpace, zzCloneBytes, zzNextValueAt, zzSameBytes, the two bounds.
-/
import Derived.Test.Qxb6629160aFmtBase
namespace Go.Proofs.Qxb6629160aFmt
open Go.RowKit Js

/-- What a slice is told by, in the world as it stands. -/
def RdN (w : World) (a : Option Addr) (len cap : Nat) (zs : List Int) : Prop := Rd w w.heap.size a len cap zs

theorem RdN.step {w w' : World} {a : Option Addr} {len cap : Nat} {zs : List Int} (h : RdN w a len cap zs) {B : Nat} (hb : Below B w w') (hB : w.heap.size ≤ B) : RdN w' a len cap zs :=
  (Rd.later h (hb.mono hB)).wider hb.size

theorem RdN.draw {w : World} {a : Option Addr} {len cap : Nat} {zs : List Int} (h : RdN w a len cap zs) (n : Nat) : RdN (w.drewN n) a len cap zs := ⟨h.size, h.fits, h.bytes, h.nil0, h.cells⟩

set_option maxHeartbeats 400000 in
theorem sp_yes (c : Int) (w : World) (h : isSp c = true) : Calls Tryf.prog 6 #[.int .u8 c] w fun e w' => e = .returned (.bool true) ∧ w = w' := by
  rcases isSp_true h with rfl | rfl | rfl | rfl
  all_goals
    clear h
    go_enter Tryf.func6, Tryf.ntmps6
    go_wp2
    go_ret
    exact ⟨rfl, rfl⟩

set_option maxHeartbeats 400000 in
theorem sp_no (c : Int) (w : World) (h : isSp c = false) : Calls Tryf.prog 6 #[.int .u8 c] w fun e w' => e = .returned (.bool false) ∧ w = w' := by
  obtain ⟨h1, h2, h3, h4⟩ := isSp_false h
  have t1 : (c == 32) = false := by simpa using h1
  have t2 : (c == 9) = false := by simpa using h2
  have t3 : (c == 10) = false := by simpa using h3
  have t4 : (c == 13) = false := by simpa using h4
  clear h h1 h2 h3 h4
  go_enter Tryf.func6, Tryf.ntmps6
  go_wp2
  go_ret
  exact ⟨rfl, rfl⟩

/-- A ROW OF len BYTES THAT IS BEING FILLED: the first k are those of zs. -/
def Fill (w : World) (g len k : Nat) (zs : List Int) : Prop := ∃ cur : Array Value, w.heap[g]? = some (.cells cur 5 (0, 0)) ∧ cur.size = len ∧ ∀ i, i < k → cur[i]? = some (.int .u8 (zs[i]?.getD 0))

theorem Fill.start {w : World} {B g len : Nat} {zs : List Int} {z : Value} (h : w.ownsRow B 5 1 (.slice (some ⟨g, 0, none⟩) len len) len (madeCells #[z] len).toList) : Fill w g len 0 zs := by
  rcases h.2 with ⟨h', _⟩ | ⟨g', cap', cur, h', _, hg, _, _, hcs, _⟩
  · simp at h'
  · simp only [Value.slice.injEq, Option.some.injEq, Addr.mk.injEq, and_true, true_and] at h'
    obtain ⟨rfl, rfl⟩ := h'
    exact ⟨cur, hg, by omega, fun i hi => absurd hi (Nat.not_lt_zero _)⟩

theorem Fill.cell {w : World} {g len k : Nat} {zs : List Int} (h : Fill w g len k zs) {i : Nat} (hi : i < len) : (∃ v, w.cell? ⟨g, i, none⟩ = some v) ∧ w.frozen? ⟨g, i, none⟩ = false := by
  obtain ⟨cur, hg, hs, _⟩ := h
  exact ⟨⟨cur[i]'(by omega), by rw [cell_of_row w g i cur 5 (0, 0) hg]; simp [hs, hi]⟩, frozen_of_row w g i cur 5 hg⟩

theorem Fill.step {w : World} {g len k : Nat} {zs : List Int} (h : Fill w g len k zs) (hk : k < len) {c : Int} (hc : c = zs[k]?.getD 0) :
    Fill (w.setCell ⟨g, k, none⟩ (.int .u8 c)) g len (k + 1) zs ∧ w.grownBy (w.setCell ⟨g, k, none⟩ (.int .u8 c)) (some g) := by
  subst hc
  obtain ⟨cur, hg, hs, hf⟩ := h
  refine ⟨⟨cur.setIfInBounds k _, heap_setCell_same w g k cur 5 _ hg, by simpa using hs, fun i hi => ?_⟩, ⟨rfl, rfl, rfl, by simp, fun j _ hj => heap_setCell_other w ⟨g, k, none⟩ j _ (fun e => hj (by simp [e]))⟩⟩
  by_cases he : i = k
  · subst he
    rw [Array.getElem?_setIfInBounds_self_of_lt (by omega)]
  · rw [Array.getElem?_setIfInBounds_ne (by omega)]
    exact hf i (by omega)

theorem Fill.done {w : World} {g len : Nat} {zs : List Int} (h : Fill w g len len zs) (hz : zs.length = len) (hb : Bytes zs) : RdN w (some ⟨g, 0, none⟩) len len zs := by
  obtain ⟨cur, hg, hs, hf⟩ := h
  refine ⟨hz, Nat.le_refl _, hb, fun h => (by cases h), fun _ => ⟨g, 0, rfl, (Array.getElem?_eq_some_iff.1 hg).1, fun i hi => ?_⟩⟩
  rw [Nat.zero_add, cell_of_row w g i cur 5 (0, 0) hg]
  exact hf i hi

theorem Fill.kept {w w' : World} {g len k B : Nat} {zs : List Int} (h : Fill w g len k zs) (hb : Below B w w') (hB : g < B) : Fill w' g len k zs := by
  obtain ⟨cur, hg, r⟩ := h
  exact ⟨cur, by rw [hb.block g hB]; exact hg, r⟩

set_option maxHeartbeats 1000000 in
theorem clone_any (a : Option Addr) (len cap : Nat) (zs : List Int) (w : World) (hrd : RdN w a len cap zs) (hm : len ≤ 1099511627776) :
    Calls Tryf.prog 7 #[.slice a len cap] w fun e w' => ∃ a' c', e = .returned (.slice a' len c') ∧ RdN w' a' len c' zs ∧ (a' = none ↔ a = none) ∧ Below w.heap.size w w' := by
  obtain ⟨i0, hi, hz0, hz1, hz2⟩ := info_parts Tryf.info5
  have hq := fun (w : World) (a : Option Addr) (n c : Nat) => Lib.run_eql_slice_nil (P := Tryf.prog) w 22 5 a n c 0 0 Tryf.underlying22
  have HR : Hid (RdN w a len cap zs) := hrd
  clear hrd
  cases a with
  | none =>
    go_enter Tryf.func7, Tryf.ntmps7
    go_wp2
    go_ret
    refine ⟨none, 0, ?_, ?_, by simp, Below.refl _ _⟩
    · have h1 := HR.out.nil0 rfl
      have h2 := HR.out.fits
      rw [show len = 0 by omega]
      rfl
    · have h1 := HR.out.nil0 rfl
      rw [← h1]
      exact HR.out
  | some ad =>
    go_enter Tryf.func7, Tryf.ntmps7
    go_wp2_with (at_make; refine wpList_make_full _ rfl _ _ 22 rfl w.heap.size 5 i0 (.int .u8 0) 1 Tryf.underlying22 hi hz0 hz1 _ _ _ _ len rfl rfl rfl rfl ?b2 ?b3 ?b4 ?_)
    case b2 => rw [hz2]; omega
    case b3 => unfold maxLen; omega
    case b4 => exact Nat.le_refl _
    intro w1 hown1 hgrow1
    have hb1 : Below w.heap.size w w1 := (Below.refl _ _).grown hgrow1 (Nat.le_refl _) (fun k h => by cases h)
    have HF : Hid (Fill w1 w.heap.size len 0 zs) := Fill.start hown1
    clear hown1 hgrow1
    go_wp2
    go_loopw [4] (fun i wr => ∃ k : Nat, k ≤ len ∧ i = .int .i64 k ∧ Hid (Fill wr w.heap.size len k zs) ∧ Below w.heap.size w wr) (fun i _ => len - (intOf i).toNat)
    case atStart => exact ⟨0, Nat.zero_le _, rfl, HF, hb1⟩
    case round =>
      obtain ⟨k, hk, rfl, hf, hnx⟩ := hrel
      clear HF hb1
      by_cases hlt : k < len
      · obtain ⟨b, off, ha, hb, hc⟩ := HR.out.cells (by omega)
        cases ha
        have cc : wr.cell? ⟨b, off + k, none⟩ = some (.int .u8 (zs[k]?.getD 0)) := (hnx.cell (p := ⟨b, off + k, none⟩) hb).trans (hc k hlt)
        obtain ⟨⟨v, hv⟩, hfz⟩ := hf.out.cell hlt
        have R := hf.out.step hlt rfl
        have R1 := R.1
        have R2 : Below w.heap.size w (wr.setCell ⟨w.heap.size, k, none⟩ (.int .u8 (zs[k]?.getD 0))) := hnx.grown R.2 hnx.size (fun j hj => by cases hj; exact Nat.le_refl _)
        have HR1 : Hid (Fill (wr.setCell ⟨w.heap.size, k, none⟩ (.int .u8 (zs[k]?.getD 0))) w.heap.size len (k + 1) zs) := R1
        clear R R1 hc hf
        generalize zs[k]?.getD 0 = c at *
        go_wp2
        go_roundw
        case rel => exact ⟨k + 1, by omega, by go_num, HR1, R2⟩
        case measure => simp [intOf]; omega
      · have : k = len := by omega
        subst this
        go_wp2
        go_ret
        exact ⟨_, _, rfl, hf.out.done HR.out.size HR.out.bytes, by simp, hnx⟩

set_option maxHeartbeats 1000000 in
theorem next_any (a : Option Addr) (len cap : Nat) (zs : List Int) (p j : Nat) (w : World) (hrd : RdN w a len cap zs) (hj : NextIs zs p j) (hm : len ≤ 1099511627776) :
    Calls Tryf.prog 8 #[.slice a len cap, .int .i64 p] w fun e w' => e = .returned (.int .i64 j) ∧ w = w' := by
  have HR : Hid (RdN w a len cap zs) := hrd
  have HJ : Hid (NextIs zs p j) := hj
  have hjl : j ≤ len := by have := hj.le; have := hrd.size; omega
  have hpj := hj.ge
  clear hrd hj
  go_enter Tryf.func8, Tryf.ntmps8
  go_wp2
  go_loopw [5] (fun i wr => ∃ k : Nat, p ≤ k ∧ k ≤ j ∧ i = .int .i64 k ∧ w = wr) (fun i _ => j - (intOf i).toNat)
  case atStart => exact ⟨p, Nat.le_refl _, hpj, rfl, rfl⟩
  case round =>
    obtain ⟨k, hk1, hk2, rfl, rfl⟩ := hrel
    by_cases hlt : k < len
    · obtain ⟨b, off, rfl, hb, hc⟩ := HR.out.cells (by omega)
      have cc := hc k hlt
      clear hc
      by_cases hkj : k < j
      · have HS : Hid (isSp (zs[k]?.getD 0) = true) := HJ.out.blank k hk1 hkj
        generalize zs[k]?.getD 0 = c at *
        go_wp2_with (go_at_call 6; refine (sp_yes _ _ HS.out).mono ?_; rintro e w' ⟨rfl, rfl⟩)
        go_roundw
        case rel => exact ⟨k + 1, by omega, by omega, by go_num, by trivial⟩
        case measure => simp [intOf]; omega
      · have : k = j := by omega
        subst this
        have HS : Hid (isSp (zs[k]?.getD 0) = false) := HJ.out.stop (by have := HR.out.size; omega)
        generalize zs[k]?.getD 0 = c at *
        go_wp2_with (go_at_call 6; refine (sp_no _ _ HS.out).mono ?_; rintro e w' ⟨rfl, rfl⟩)
        go_ret
        exact ⟨rfl, rfl⟩
    · have : k = j := by omega
      subst this
      have hd : decide ((k : Int) < (len : Int)) = false := decide_eq_false (by omega)
      go_wp2
      go_ret
      exact ⟨rfl, rfl⟩

set_option maxHeartbeats 1000000 in
/-- two that read alike, and are nil alike -/
theorem same_yes (a1 : Option Addr) (l1 c1 : Nat) (z1 : List Int) (a2 : Option Addr) (l2 c2 : Nat) (z2 : List Int) (w : World)
    (h1 : RdN w a1 l1 c1 z1) (h2 : RdN w a2 l2 c2 z2) (hm : l1 ≤ 1099511627776) (he : z1 = z2) (hn : a1 = none ↔ a2 = none) :
    Calls Tryf.prog 14 #[.slice a1 l1 c1, .slice a2 l2 c2] w fun e w' => e = .returned (.bool true) ∧ ∃ n, w' = w.drewN n := by
  subst he
  have hl : l1 = l2 := h1.size.symm.trans h2.size
  subst hl
  have hq := fun (w : World) (a : Option Addr) (n c : Nat) => Lib.run_eql_slice_nil (P := Tryf.prog) w 22 5 a n c 0 0 Tryf.underlying22
  have hnn : a1.isNone = a2.isNone := by
    cases a1 <;> cases a2 <;> simp_all
  have hbe : (a2.isNone != a2.isNone) = false := by simp
  have hne : ((l1 : Int) != (l1 : Int)) = false := by simp
  have H1 : Hid (RdN w a1 l1 c1 z1) := h1
  have H2 : Hid (RdN w a2 l1 c2 z1) := h2
  clear h1 h2 hn
  by_cases h0 : l1 = 0
  · subst h0
    go_enter Tryf.func14, Tryf.ntmps14
    go_wp2
    refine wp_loop_rounds 1 ?_
    rw [rounds_succ]
    go_wp2
    go_ret
    exact ⟨rfl, 0, rfl⟩
  · obtain ⟨b1, o1, rfl, _, hc1⟩ := H1.out.cells (by omega)
    obtain ⟨b2, o2, rfl, _, hc2⟩ := H2.out.cells (by omega)
    have HA : Hid (∀ i, i < l1 → w.cell? ⟨b1, o1 + i, none⟩ = some (.int .u8 (z1[i]?.getD 0))) := hc1
    have HB : Hid (∀ i, i < l1 → w.cell? ⟨b2, o2 + i, none⟩ = some (.int .u8 (z1[i]?.getD 0))) := hc2
    clear hc1 hc2 hnn hbe
    go_enter Tryf.func14, Tryf.ntmps14
    go_wp2
    go_loopw [5] (fun i wr => ∃ k n : Nat, k ≤ l1 ∧ i = .int .i64 k ∧ wr = w.drewN n) (fun i _ => l1 - (intOf i).toNat)
    case atStart => exact ⟨0, 0, Nat.zero_le _, rfl, rfl⟩
    case round =>
      obtain ⟨k, n, hk, rfl, rfl⟩ := hrel
      by_cases hlt : k < l1
      · have g1 := HA.out k hlt
        have g2 := HB.out k hlt
        generalize z1[k]?.getD 0 = c at *
        have hvn : (c != c) = false := by simp
        go_wp2
        go_quiet (fail)
        go_wp2
        go_roundw
        case rel => exact ⟨k + 1, _, by omega, by go_num, rfl⟩
        case measure => simp [intOf]; omega
      · go_wp2
        go_ret
        exact ⟨rfl, _, rfl⟩

set_option maxHeartbeats 1000000 in
/-- the bounds on the arguments' lengths: some answer, and nothing turns -/
theorem bytes_ins (a1 : Option Addr) (l1 c1 : Nat) (p d : Int) (m : Bool) (a2 : Option Addr) (l2 c2 : Nat) (a3 : Option Addr) (l3 c3 : Nat) (w : World) :
    Calls Tryf.prog 5 #[.slice a1 l1 c1, .int .i64 p, .int .i64 d, .bool m, .slice a2 l2 c2, .slice a3 l3 c3] w fun e w' => ∃ r : Bool, e = .returned (.bool r) ∧ w = w' := by
  go_enter Tryf.func5, Tryf.ntmps5
  go_wp2
  all_goals
    go_ret
    exact ⟨_, rfl, rfl⟩

set_option maxHeartbeats 1000000 in
theorem bytes_twice (a1 : Option Addr) (l1 c1 : Nat) (p d : Int) (m : Bool) (a2 : Option Addr) (l2 c2 : Nat) (w : World) :
    Calls Tryf.prog 17 #[.slice a1 l1 c1, .int .i64 p, .int .i64 d, .bool m, .slice a2 l2 c2] w fun e w' => ∃ r : Bool, e = .returned (.bool r) ∧ w = w' := by
  go_enter Tryf.func17, Tryf.ntmps17
  go_wp2
  all_goals
    go_ret
    exact ⟨_, rfl, rfl⟩

/-- WHAT THE WALK IS TOLD OF A SLICE OF INTEGERS THAT CAME IN (the guide's shell's own words). -/
def IsRow (k : IntKind) (w : World) (a : Option Addr) (len cap : Nat) (zs : List Int) : Prop :=
  (a = none ∧ len = 0 ∧ cap = 0 ∧ zs = []) ∨
  ∃ x, a = some x ∧ len ≤ cap ∧ cap ≤ maxLen ∧ zs.length = cap ∧ (∀ i, i < zs.length → w.cell? (x.add i) = some (.int k (zs.getD i 0))) ∧ ∀ n ∈ zs, (Lit.int k n).wf = true

theorem rd_of_row {w : World} {a : Option Addr} {len cap : Nat} {zs : List Int} (h : IsRow .u8 w a len cap zs) : RdN w a len cap (zs.take len) := by
  rcases h with ⟨rfl, rfl, rfl, rfl⟩ | ⟨x, rfl, hl, _, hz, hc, hw⟩
  · exact ⟨rfl, Nat.le_refl _, fun x hx => by simp at hx, fun _ => rfl, fun h => absurd h (Nat.lt_irrefl _)⟩
  · refine ⟨by simp; omega, hl, fun y hy => ?_, fun h => (by cases h), fun h0 => ?_⟩
    · have := hw y (List.mem_of_mem_take hy)
      have hb := bounds_u8 this
      omega
    · obtain ⟨b, off, spot⟩ := x
      have h00 := hc 0 (by omega)
      have hspot : spot = none := by simpa [Addr.add] using World.cell?_spot h00
      subst hspot
      refine ⟨b, off, rfl, ?_, fun i hi => ?_⟩
      · have := World.block_lt_of_cell? w _ h00
        simpa [Addr.add_lit] using this
      · have := hc i (by omega)
        rw [Addr.add_lit] at this
        rw [this, List.getElem?_take, if_pos hi]
        simp [List.getD]

end Go.Proofs.Qxb6629160aFmt
