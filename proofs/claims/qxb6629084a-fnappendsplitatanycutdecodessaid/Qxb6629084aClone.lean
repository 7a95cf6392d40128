/-
  Seat b6629084a: 'escB1Clone': a copy of its own of what the slice holds; nil stays nil.
-/
import Derived.Test.Qxb6629084aAppend
import Derived.Laws.CopyOwn
namespace Go.Proofs.Qxb6629084a
open Go.RowKit Esc

theorem heap_of_full {w : World} {B e n g : Nat} {xs : List Value} (h : w.ownsRow B e 1 (.slice (some ⟨g, 0, none⟩) n n) n xs) : w.heap[g]? = some (.cells xs.toArray e (0, 0)) := by
  rcases h.2 with ⟨h', _⟩ | ⟨g', cap', cur, h', _, hg, _, _, hcs, htake⟩
  · simp at h'
  · simp only [Value.slice.injEq, Option.some.injEq, Addr.mk.injEq, and_true, true_and] at h'
    obtain ⟨rfl, rfl⟩ := h'
    rw [hg, ← htake, List.take_of_length_le (by rw [Array.length_toList, hcs]; exact Nat.le_refl _)]

theorem own_of_heap {w : World} {B n g : Nat} {zs : List Int} (hB : B ≤ g) (hn : zs.length = n) (hm : n ≤ maxLen) (hg : w.heap[g]? = some (.cells (zs.map (Value.int .u8)).toArray 5 (0, 0))) :
    Own w B (.slice (some ⟨g, 0, none⟩) n n) zs := by
  subst hn
  exact ⟨by simp, .inr ⟨g, zs.length, _, rfl, hB, hg, Nat.le_refl _, hm, by simp, by simpa using List.take_of_length_le (by simp)⟩⟩

theorem splice_all {α : Type} (L cs : List α) (h : L.length = cs.length) : splice L 0 cs = cs := by
  unfold splice
  rw [List.drop_of_length_le (by omega)]
  simp

theorem made_len (z : Value) (n : Nat) : (madeCells #[z] n).toList.length = n := by rw [toList_madeCells_one]; simp

theorem src_cells {w : World} {B : Nat} {a : Option Addr} {len cap : Nat} {zs : List Int} (h : Rd w B a len cap zs) (hp : 0 < (zs.map (Value.int .u8)).length) :
    ∃ ad, a = some ad ∧ ∀ j v, (zs.map (Value.int .u8))[j]? = some v → w.cell? (ad.add j) = some v := by
  obtain ⟨b, off, rfl, _, hc⟩ := h.cells (by simpa [h.size] using hp)
  refine ⟨_, rfl, fun j v hj => ?_⟩
  have hl : j < zs.length := by
    have := (List.getElem?_eq_some_iff.1 hj).1
    simpa using this
  rw [Addr.add_lit, hc j (by rw [← h.size]; exact hl), List.getElem?_eq_getElem hl]
  rw [List.getElem?_map, List.getElem?_eq_getElem hl] at hj
  simpa using hj

set_option maxHeartbeats 1000000 in
theorem clone_any (a : Option Addr) (len cap : Nat) (zs : List Int) (B : Nat) (w : World)
    (hrd : Rd w B a len cap zs) (hB : B ≤ w.heap.size) (hm : len ≤ 1099511627776) :
    Calls Try.prog 7 #[.slice a len cap] w fun e w' => ∃ v, e = .returned v ∧ Own w' w.heap.size v zs ∧ Below w.heap.size w w' := by
  obtain ⟨i0, hi, hz0, hz1, hz2⟩ := info_parts Try.info5
  have hq := fun (w : World) (a : Option Addr) (n c : Nat) => Lib.run_eql_slice_nil (P := Try.prog) w 22 5 a n c 0 0 Try.underlying22
  cases a with
  | none =>
    have hc := hrd.nil0 rfl
    have hf := hrd.fits
    obtain rfl : len = 0 := by omega
    obtain rfl : cap = 0 := hc
    obtain rfl : zs = [] := List.eq_nil_of_length_eq_zero hrd.size
    clear hrd
    go_enter Try.func7, Try.ntmps7
    go_wp2
    go_ret
    exact ⟨_, rfl, World.ownsRow_nil _ _ _ _, Below.refl _ _⟩
  | some ad =>
    have HR : Hid (Rd w B (some ad) len cap zs) := hrd
    clear hrd
    go_enter Try.func7, Try.ntmps7
    go_wp2_with (at_make; refine wpList_make_full _ rfl _ _ 22 rfl w.heap.size 5 i0 (.int .u8 0) 1 Try.underlying22 hi hz0 hz1 _ _ _ _ len rfl rfl rfl rfl ?b2 ?b3 ?b4 ?_)
    case b2 => rw [hz2]; omega
    case b3 => unfold maxLen; omega
    case b4 => exact Nat.le_refl _
    intro w1 hown1 hgrow1
    have hb1 : Below w.heap.size w w1 := (Below.refl _ _).grown hgrow1 (Nat.le_refl _) (fun k h => by cases h)
    have HG : Hid (w1.heap[w.heap.size]? = some (.cells (madeCells #[Value.int .u8 0] len).toList.toArray 5 (0, 0))) := heap_of_full hown1
    clear hown1 hgrow1
    have HR1 : Hid (Rd w1 w.heap.size (some ad) len cap zs) := (HR.out.wider hB).later hb1
    have N1 : Hid ((zs.map (Value.int .u8)).length = Nat.min len len) := by show _ = _; rw [List.length_map, HR1.out.size]; exact (Nat.min_self _).symm
    have N3 : Hid (0 + (zs.map (Value.int .u8)).length ≤ (madeCells #[Value.int .u8 0] len).toList.length) := by show _ ≤ _; rw [made_len]; simp [HR1.out.size]
    go_wp2_with (refine wpList_copy_splice rfl (.tmp 9) (.tmp 10) 22 22 rfl 5 Try.underlying22 (by rw [hi]; simp [hz1]) _ _ _ _ _ _ rfl rfl w.heap.size 0 (madeCells #[Value.int .u8 0] len).toList 5 HG.out (zs.map (Value.int .u8)) N1.out (fun hp => ⟨rfl, src_cells HR1.out hp⟩) N3.out (ints_oneCell _ _) w.heap.size w hb1 (Nat.le_refl _) ?_)
    intro w2 hg2 hb2
    have R : Own w2 w.heap.size (.slice (some ⟨w.heap.size, 0, none⟩) len len) zs := by
      refine own_of_heap (Nat.le_refl _) HR1.out.size (by unfold maxLen; omega) ?_
      have := hg2.out
      rw [splice_all _ _ (by rw [made_len]; simp [HR1.out.size])] at this
      exact this
    clear hg2 HG
    go_wp2
    go_ret
    exact ⟨_, rfl, R, hb2⟩

end Go.Proofs.Qxb6629084a
