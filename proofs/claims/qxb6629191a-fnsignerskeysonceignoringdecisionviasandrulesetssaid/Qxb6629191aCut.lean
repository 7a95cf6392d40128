/-
  Seat b6629191a: the walk of the law of the cut.
-/
import Derived.Test.Qxb6629191aPairs
import Derived.Test.Qxb6629191aSame
import Derived.Test.Qxb6629191aBytesCut
namespace Go.Proofs.Qxb6629191a
open Go.RowKit Sg

theorem Pr.take {w : World} {B : Nat} {a : Option Addr} {len cap : Nat} {ks vs : List ByteArray} (h : Pr w B a len cap ks vs) {k : Nat} (hk : k ≤ len) : Pr w B a k cap (ks.take k) (vs.take k) := by
  have h1 := h.size
  have h2 := h.sizev
  refine ⟨by rw [List.length_take]; omega, by rw [List.length_take]; omega, Nat.le_trans hk h.fits, h.nil0, fun hl => ?_⟩
  obtain ⟨b, off, ha, hbB, hc⟩ := h.cells (by omega)
  exact ⟨b, off, ha, hbB, fun i hi => by rw [List.getElem?_take_of_lt hi, List.getElem?_take_of_lt hi]; exact hc i (by omega)⟩

theorem Pr.drop {w : World} {B : Nat} {g off : Nat} {len cap : Nat} {ks vs : List ByteArray} (h : Pr w B (some ⟨g, off, none⟩) len cap ks vs) {k : Nat} (hk : k ≤ len) : Pr w B (some ⟨g, off + k * 2, none⟩) (len - k) (cap - k) (ks.drop k) (vs.drop k) := by
  have h1 := h.size
  have h2 := h.sizev
  have h3 := h.fits
  refine ⟨by rw [List.length_drop]; omega, by rw [List.length_drop]; omega, by omega, fun h => (by cases h), fun hl => ?_⟩
  obtain ⟨b, off', ha, hbB, hc⟩ := h.cells (by omega)
  simp only [Option.some.injEq, Addr.mk.injEq, and_true] at ha
  obtain ⟨rfl, rfl⟩ := ha
  refine ⟨g, off + k * 2, rfl, hbB, fun i hi => ?_⟩
  have h4 := hc (k + i) (by omega)
  rw [List.getElem?_drop, List.getElem?_drop, show off + k * 2 + i * 2 = off + (k + i) * 2 by omega]
  exact h4

theorem take_sizes {ks : List ByteArray} {len k : Nat} (h : ∀ i, i < len → (ks[i]?.getD E0).size ≤ maxLen) (hk : k ≤ len) : ∀ i, i < k → ((ks.take k)[i]?.getD E0).size ≤ maxLen := by
  intro i hi
  rw [List.getElem?_take_of_lt hi]
  exact h i (by omega)

theorem drop_sizes {ks : List ByteArray} {len k : Nat} (h : ∀ i, i < len → (ks[i]?.getD E0).size ≤ maxLen) : ∀ i, i < len - k → ((ks.drop k)[i]?.getD E0).size ≤ maxLen := by
  intro i hi
  rw [List.getElem?_drop]
  exact h (k + i) (by omega)

theorem ow_ss {w : World} {B : Nat} {v : Value} {xs : List ByteArray} (h : Ow w B v xs) : ∃ a c, v = .slice a xs.length c ∧ Ss w w.heap.size a xs.length c xs := by
  rcases h.2 with ⟨rfl, hn⟩ | ⟨g, cap, cur, rfl, hb, hg, hcap, _⟩
  · exact ⟨none, 0, by rw [hn], rfl, by omega, fun h => by omega⟩
  · refine ⟨_, _, rfl, rfl, hcap, fun hl => ⟨g, 0, rfl, (Array.getElem?_eq_some_iff.1 hg).1, fun i hi => ?_⟩⟩
    rw [Nat.zero_add, h.cellAt i (by omega), List.getElem?_map, List.getElem?_eq_getElem hi]
    simp

theorem hid {p : Prop} (h : p) : Hid p := h

theorem drop_take_self {α : Type} (l : List α) (j : Nat) : (l.take j).drop j = [] := by rw [List.drop_eq_nil_iff, List.length_take]; omega

/-- the plain laws of the cut and of the step put in -/
theorem sig_cut (ks : List ByteArray) (j : Nat) (key : ByteArray) : sig ks = seam (sig (ks.take j)) (sig (ks.drop j)) ∧ sig (ks.take j ++ ([key] ++ ks.drop j)) = seam (seam (sig (ks.take j)) (sig [key])) (sig (ks.drop j)) :=
  ⟨by rw [← sig_append, List.take_append_drop], sig_insert _ _ _⟩

theorem size_at {ks : List ByteArray} (h : ∀ x ∈ ks, x.size ≤ maxLen) (i : Nat) : (ks[i]?.getD E0).size ≤ maxLen := by
  rcases Nat.lt_or_ge i ks.length with hi | hi
  · rw [List.getElem?_eq_getElem hi]; exact h _ (List.getElem_mem hi)
  · rw [List.getElem?_eq_none hi]; exact Nat.zero_le _

theorem size_mem {ks : List ByteArray} {len : Nat} (hl : ks.length = len) (h : ∀ i, i < len → (ks[i]?.getD E0).size ≤ maxLen) : ∀ x ∈ ks, x.size ≤ maxLen := by
  intro x hx
  obtain ⟨i, hi, rfl⟩ := List.getElem_of_mem hx
  have h1 := h i (by omega)
  rw [List.getElem?_eq_getElem hi] at h1
  exact h1

theorem grown_calls (al : Bool) {wr : World} {B : Nat} {u : Value} {ks vs : List ByteArray} {key via : ByteArray} {j len : Nat} (h : Op2 wr B u ((ks.zip vs).take j ++ [(key, via)] ++ ((ks.zip vs).take len).drop j)) (hj : j ≤ len) (h1 : ks.length = len) (h2 : vs.length = len)
    (hs : ∀ i, i < len → (ks[i]?.getD E0).size ≤ maxLen) (hk : key.size ≤ maxLen) (hl : len ≤ 32768) :
    ∃ a c, u = .slice a (len + 1) c ∧ Calls Try.prog 8 #[.agg #[.bool al, .slice a (len + 1) c]] wr fun e w' => ∃ v, e = .returned v ∧ Ow w' wr.heap.size v (sig (ks.take j ++ ([key] ++ ks.drop j))) ∧ (sig (ks.take j ++ ([key] ++ ks.drop j)) = [] → v = .slice none 0 0) ∧ Below wr.heap.size wr w' := by
  have hz : (ks.zip vs).length = len := by rw [List.length_zip]; omega
  rw [List.take_of_length_le (l := ks.zip vs) (i := len) (by omega)] at h
  obtain ⟨a, c, hu, hp⟩ := op2_pr h
  have e1 : ((ks.zip vs).take j ++ [(key, via)] ++ (ks.zip vs).drop j).length = len + 1 := by simp only [List.length_append, List.length_take, List.length_drop, List.length_cons, List.length_nil]; omega
  have e2 : ((ks.zip vs).take j ++ [(key, via)] ++ (ks.zip vs).drop j).map (·.1) = ks.take j ++ ([key] ++ ks.drop j) := by
    rw [List.map_append, List.map_append, List.map_take, List.map_drop, zip_fst ks vs (by omega), List.append_assoc]
    rfl
  rw [e1] at hu hp
  rw [e2] at hp
  refine ⟨a, c, hu, sig_any al a (len + 1) c _ _ wr hp (fun i _ => size_at (fun x hx => ?_) i) (by omega)⟩
  rcases List.mem_append.1 hx with hx | hx
  · exact size_mem h1 hs x (List.mem_of_mem_take hx)
  · rcases List.mem_append.1 hx with hx | hx
    · rw [List.mem_singleton] at hx; subst hx; exact hk
    · exact size_mem h1 hs x (List.mem_of_mem_drop hx)

theorem Ss.on {w w' : World} {a : Option Addr} {len cap : Nat} {ks : List ByteArray} (h : Ss w w.heap.size a len cap ks) (hb : Below w.heap.size w w') : Ss w' w'.heap.size a len cap ks := (h.later hb).wider hb.size

theorem ss_none (w : World) (B : Nat) : Ss w B none 0 0 [] := ⟨rfl, Nat.le_refl _, fun h => absurd h (Nat.lt_irrefl _)⟩

theorem ss_one (w : World) (k : ByteArray) : Ss (w.alloc (.cells #[.string k] 9)) (w.alloc (.cells #[.string k] 9)).heap.size (some ⟨w.heap.size, 0, none⟩) 1 1 [k] := by
  refine ⟨rfl, Nat.le_refl _, fun _ => ⟨_, _, rfl, by simp, fun i hi => ?_⟩⟩
  obtain rfl : i = 0 := by omega
  exact cell_one_new w (.string k) 9 0 _ rfl

theorem ow_ssl {w : World} {B : Nat} {v : Value} {xs : List ByteArray} (h : Ow w B v xs) : ∃ a l c, v = .slice a l c ∧ Ss w w.heap.size a l c xs := by
  obtain ⟨a, c, h1, h2⟩ := ow_ss h
  exact ⟨a, _, c, h1, h2⟩

theorem ow_nil {w : World} {B : Nat} {v : Value} {xs : List ByteArray} (h : Ow w B v xs) (hn : xs = [] → v = .slice none 0 0) : ∃ a l c, v = .slice a l c ∧ Ss w w.heap.size a l c xs ∧ a.isNone = ((l : Int) == 0) := by
  cases xs with
  | nil => exact ⟨none, 0, 0, hn rfl, ss_none _ _, rfl⟩
  | cons x xs =>
    obtain ⟨a, c, h1, h2⟩ := ow_ss h
    obtain ⟨b, off, ha, _⟩ := h2.cells (by simp)
    refine ⟨a, _, c, h1, h2, ?_⟩
    rw [ha, Eq.comm]
    simp only [Option.isNone_some, beq_eq_false_iff_ne, List.length_cons]
    omega

theorem grown_len (ks : List ByteArray) (j : Nat) (key : ByteArray) : (ks.take j ++ ([key] ++ ks.drop j)).length = ks.length + 1 := by
  simp only [List.length_append, List.length_take, List.length_drop, List.length_cons, List.length_nil]
  omega

theorem seam_len (a b : List ByteArray) : (seam a b).length ≤ a.length + b.length := by
  rw [seam_drop, List.length_append, List.length_drop]
  omega

set_option maxHeartbeats 8000000 in
set_option maxRecDepth 100000 in
theorem cut_walk (al : Bool) (a : Option Addr) (len cap : Nat) (ks vs : List ByteArray) (n : Int) (key via : ByteArray) (w : World) (hrd : Pr w w.heap.size a len cap ks vs)
    (hk : ∀ i, i < len → (ks[i]?.getD E0).size ≤ maxLen) (hv : ∀ i, i < len → (vs[i]?.getD E0).size ≤ maxLen) (hkey : key.size ≤ maxLen) (hvia : via.size ≤ maxLen) :
    Calls Try.prog 3 #[.bool al, .slice a len cap, .int .i64 n, .string key, .string via] w fun e w' => e = .returned (.bool true) ∧ Below w.heap.size w w' := by
  have HR : Hid (Pr w w.heap.size a len cap ks vs) := hrd
  have HS : Hid (∀ i, i < len → (ks[i]?.getD E0).size ≤ maxLen) := hk
  have HB := bytes_cut al a len cap ks vs n key via w.heap.size w hrd hk hv hkey hvia
  have HKY : Hid (key.size ≤ maxLen) := hkey
  clear hrd hk hv hkey hvia
  have HG : Hid (key.size ≤ 1048576 → via.size ≤ 1048576 → Small len ks vs → Calls Try.prog 6 #[.slice a len cap, .int .i64 ((key.size : Int) + (via.size : Int))] w fun e w' => ∃ r : Bool, e = .returned (.bool r) ∧ (r = false → len ≤ 32768) ∧ ∃ n, w' = w.drewN n) := by
    intro h1 h2 h3
    have h := big_any a len cap ks vs (key.size + via.size) w.heap.size w HR.out (fun i hi => (h3.2 i hi).1) (fun i hi => (h3.2 i hi).2) (by omega) (by have := h3.1; omega)
    rw [Int.natCast_add] at h
    exact h
  rcases Int.lt_or_le n 0 with hn0 | hn0
  · go_enter Try.func3, Try.ntmps3
    go_wp2_with (first | (go_at_call 5; refine HB.mono ?_; rintro e w2 ⟨r, rfl, hr, rfl⟩; cases r; rotate_left; have hr2 := hr rfl; have q1 : decide (1048576 < key.size) = false := decide_eq_false (by omega); have q2 : decide (1048576 < via.size) = false := decide_eq_false (by omega); have HG2 := HG.out (by omega) (by omega) hr2.1) | (go_at_call 6; refine HG2.mono ?_; rintro e w3 ⟨r, rfl, hr3, m, rfl⟩; cases r))
    all_goals
      go_ret
      first
        | exact ⟨rfl, Below.refl _ _⟩
        | exact ⟨rfl, below_draw (Below.refl _ _) _⟩
  rcases Int.lt_or_le (len : Int) n with hn1 | hn1
  · go_enter Try.func3, Try.ntmps3
    go_wp2_with (first | (go_at_call 5; refine HB.mono ?_; rintro e w2 ⟨r, rfl, hr, rfl⟩; cases r; rotate_left; have hr2 := hr rfl; have q1 : decide (1048576 < key.size) = false := decide_eq_false (by omega); have q2 : decide (1048576 < via.size) = false := decide_eq_false (by omega); have HG2 := HG.out (by omega) (by omega) hr2.1) | (go_at_call 6; refine HG2.mono ?_; rintro e w3 ⟨r, rfl, hr3, m, rfl⟩; cases r))
    all_goals
      go_ret
      first
        | exact ⟨rfl, Below.refl _ _⟩
        | exact ⟨rfl, below_draw (Below.refl _ _) _⟩
  obtain ⟨k, rfl⟩ : ∃ k : Nat, n = k := ⟨n.toNat, by omega⟩
  have hkl : k ≤ len := by omega
  have q0 : decide ((k : Int) < 0) = false := decide_eq_false (by omega)
  have q9 : decide ((len : Int) < (k : Int)) = false := decide_eq_false (by omega)
  go_enter Try.func3, Try.ntmps3
  go_wp2_with (first | (go_at_call 5; refine HB.mono ?_; rintro e w2 ⟨r, rfl, hr, rfl⟩; cases r; rotate_left; have hr2 := hr rfl; have q1 : decide (1048576 < key.size) = false := decide_eq_false (by omega); have q2 : decide (1048576 < via.size) = false := decide_eq_false (by omega); have HG2 := HG.out (by omega) (by omega) hr2.1) | (go_at_call 6; refine HG2.mono ?_; rintro e w3 ⟨r, rfl, hr3, m, rfl⟩; cases r))
  rotate_left
  · go_ret
    exact ⟨rfl, below_draw (Below.refl _ _) _⟩
  · go_ret
    exact ⟨rfl, Below.refl _ _⟩
  have hlen : len ≤ 32768 := by simpa using hr3
  have HP0 : Hid (Pr (w.drewN m) (w.drewN m).heap.size a len cap ks vs) := HR.out.later (below_draw (Below.refl _ _) m)
  have HB0 : Hid (Below w.heap.size w (w.drewN m)) := below_draw (Below.refl _ _) m
  clear HB HG HG2 hr hr2 hr3 q1 q2 HR
  go_wp2_with (go_at_call 7; refine (steps_any a len cap ks vs _ HP0.out (by omega)).mono ?_; rintro e w1 ⟨g, rfl, hg, hp, hb⟩; have HB1 : Hid (Below w.heap.size w w1) := HB0.out.trans hb; have HP1 : Hid (Pr w1 w1.heap.size (some ⟨g, 0, none⟩) len len ks vs) := hp; clear hp hb hg HP0 HB0)
  go_wp2_with (go_at_call_of 8 (Value.agg #[Value.bool al, Value.slice (some ⟨g, 0, none⟩) len len]); refine (sig_any al _ len len ks vs w1 HP1.out HS.out (by omega)).mono ?_; rintro e w2 ⟨v2, rfl, ho2, hn2, hb2⟩; have HO2 : Hid (Ow w2 w1.heap.size v2 (sig ks)) := ho2; have HN2 : Hid (sig ks = [] → v2 = .slice none 0 0) := hn2; have HP2 : Hid (Pr w2 w2.heap.size (some ⟨g, 0, none⟩) len len ks vs) := (HP1.out.later hb2).wider hb2.size; have HB2 : Hid (Below w.heap.size w w2) := HB1.out.trans (hb2.mono HB1.out.size); clear ho2 hn2 hb2 HP1 HB1)
  go_upto_region 12 with (go_at_call 8; refine (sig_any al _ k len (ks.take k) (vs.take k) w2 (HP2.out.take hkl) (take_sizes HS.out hkl) (by omega)).mono ?_; rintro e w3 ⟨v3, rfl, ho, hn, hb⟩; have HO3 : Hid (Ow w3 w2.heap.size v3 (sig (ks.take k))) := ho; have HP3 : Hid (Pr w3 w3.heap.size (some ⟨g, 0, none⟩) len len ks vs) := (HP2.out.later hb).wider hb.size; have HB3 : Hid (Below w.heap.size w w3) := HB2.out.trans (hb.mono HB2.out.size); have HB23 : Hid (Below w2.heap.size w2 w3) := hb; clear ho hn hb HP2)
  have h23 := HB23.out.size
  go_cut [14] (fun u ws => Hid (Ow ws w3.heap.size u (sig (ks.drop k))) ∧ Hid (Below w3.heap.size w3 ws))
  case first =>
    have HD := HP3.out.drop hkl
    have hsd := drop_sizes (k := k) HS.out
    rcases Nat.lt_or_ge k len with hlt | hge
    · rw [Nat.zero_add] at HD
      have HC : Hid (Calls Try.prog 8 #[.agg #[.bool al, .slice (some ⟨g, k * 2, none⟩) (len - k) (len - k)]] w3 fun e w' => ∃ v, e = .returned v ∧ Ow w' w3.heap.size v (sig (ks.drop k)) ∧ (sig (ks.drop k) = [] → v = .slice none 0 0) ∧ Below w3.heap.size w3 w') := sig_any al _ _ _ _ _ w3 HD hsd (by omega)
      clear HD hsd
      go_wp2_with (go_at_call 8; refine HC.out.mono ?_; rintro e w4 ⟨v4, rfl, ho, _, hb⟩)
      go_meet
      case rel => exact ⟨ho, hb⟩
    · obtain rfl : k = len := by omega
      have HC : Hid (Calls Try.prog 8 #[.agg #[.bool al, .slice (some ⟨g, 0, none⟩) 0 0]] w3 fun e w' => ∃ v, e = .returned v ∧ Ow w' w3.heap.size v (sig (ks.drop k)) ∧ (sig (ks.drop k) = [] → v = .slice none 0 0) ∧ Below w3.heap.size w3 w') := sig_any al _ _ _ _ (vs.drop k) w3 ⟨by rw [List.length_drop, HP3.out.size]; omega, by rw [List.length_drop, HP3.out.sizev]; omega, Nat.le_refl _, fun h => (by cases h), fun h => absurd h (Nat.lt_irrefl _)⟩ (fun i hi => absurd hi (Nat.not_lt_zero _)) (by omega)
      clear HD hsd
      go_wp2_with (go_at_call 8; refine HC.out.mono ?_; rintro e w4 ⟨v4, rfl, ho, _, hb⟩)
      go_meet
      case rel => exact ⟨ho, hb⟩
  case rest =>
    obtain ⟨HO4, HB34⟩ := hcut
    have HP4 : Hid (Pr wc wc.heap.size (some ⟨g, 0, none⟩) len len ks vs) := (HP3.out.later HB34.out).wider HB34.out.size
    have h34 := HB34.out.size
    have HB4 : Hid (Below w.heap.size w wc) := HB3.out.trans (HB34.out.mono HB3.out.size)
    clear HP3 HB3
    obtain ⟨i0, hi, hz0, hz1, hz2⟩ := info_parts Try.info32
    have hw1 : IntKind.i64.wrap ((len : Int) + 1) = (len : Int) + 1 := wrap_small _ (by omega) (by omega)
    go_wp2_with (at_make; refine wpList_make_own _ rfl _ _ 25 rfl wc.heap.size 32 i0 (.agg #[.string ⟨#[]⟩, .string ⟨#[]⟩]) 2 Try.underlying25 hi hz0 hz1 _ _ _ (len + 1) rfl rfl ?b1 ?b2 ?b3 ?b4 ?_)
    case b1 => go_num
    case b2 => rw [hz2]; omega
    case b3 => unfold maxLen; omega
    case b4 => exact Nat.le_refl _
    intro w5 hown5 hgrow5
    have hb5 : Below wc.heap.size wc w5 := (Below.refl _ _).grown hgrow5 (Nat.le_refl _) (fun k h => by cases h)
    have HF : Hid (Op2 w5 wc.heap.size (.slice (some ⟨wc.heap.size, 0, none⟩) 0 (len + 1)) ((ks.zip vs).take 0)) := by show Op2 _ _ _ _; rw [List.take_zero]; exact hown5
    clear hown5 hgrow5
    go_wp2
    go_loopw [15, 16] (fun u i wr => ∃ j : Nat, j ≤ k ∧ i = .int .i64 j ∧ Hid (Op2 wr wc.heap.size u ((ks.zip vs).take j)) ∧ Below wc.heap.size wc wr) (fun _ i _ => k - (intOf i).toNat)
    case atStart => exact ⟨0, Nat.zero_le _, rfl, HF, hb5⟩
    case round =>
      obtain ⟨j, hj, rfl, hown, hnx⟩ := hrel
      clear HF hb5
      have hsz := hnx.size
      by_cases hlt : j < k
      · obtain ⟨b, off, hab, hb, hc⟩ := HP4.out.cells (by omega)
        simp only [Option.some.injEq, Addr.mk.injEq, and_true] at hab
        obtain ⟨rfl, rfl⟩ := hab
        have hc1 : wr.cell? ⟨g, 0 + j * 2, none⟩ = some (.string (ks[j]?.getD E0)) := (hnx.cell (p := ⟨g, 0 + j * 2, none⟩) hb).trans (hc j (by omega)).1
        have hc2 : wr.cell? ⟨g, 0 + j * 2 + 1, none⟩ = some (.string (vs[j]?.getD E0)) := (hnx.cell (p := ⟨g, 0 + j * 2 + 1, none⟩) hb).trans (hc j (by omega)).2
        rw [Nat.zero_add] at hc1 hc2
        have HST : Hid ((ks.zip vs).take (j + 1) = (ks.zip vs).take j ++ [(ks[j]?.getD E0, vs[j]?.getD E0)]) := zip_take_succ ks vs j (by rw [HP4.out.size]; omega) (by rw [HP4.out.sizev]; omega)
        have hXl : ((ks.zip vs).take j).length ≤ j := List.length_take_le _ _
        have hki : (j : Int) < (k : Int) := by omega
        have hkj : (j : Int) < (len : Int) := by omega
        clear hc
        generalize ks[j]?.getD E0 = s at *
        generalize vs[j]?.getD E0 = v at *
        generalize (ks.zip vs).take j = X at *
        go_wp2_with (at_builtin; refine wpList_append_own _ rfl _ _ 25 rfl wc.heap.size 32 i0 (.agg #[.string ⟨#[]⟩, .string ⟨#[]⟩]) 2 32 Try.underlying25 hi hz0 hz1 hz2 rfl (by decide) _ _ _ rfl (World.ownsRow.alloc hown.out _) ⟨wr.heap.size, 0, none⟩ 1 1 [.string s, .string v] rfl rfl (cell_two_new _ _ _ _) (by simp [Value.oneCell']) (by unfold maxLen; omega) (by omega) (by simp; omega) ?_; intro v' wn hown3 hgrow3 _; have R := op2_snoc hnx (by omega) hown.out hown3 hgrow3; clear hown3 hgrow3)
        have R1 : Hid (Op2 wn wc.heap.size v' ((ks.zip vs).take (j + 1))) := by rw [HST.out]; exact R.1
        have R3 := R.2
        clear R
        go_wp2
        go_roundw
        case rel => exact ⟨j + 1, by omega, by go_num, R1, R3⟩
        case measure => simp [intOf]; omega
      · obtain rfl : j = k := by omega
        have hkk : decide ((j : Int) < (j : Int)) = false := by simp
        have hXl : ((ks.zip vs).take j).length ≤ j := List.length_take_le _ _
        go_wp2_with (at_builtin; refine wpList_append_own _ rfl _ _ 25 rfl wc.heap.size 32 i0 (.agg #[.string ⟨#[]⟩, .string ⟨#[]⟩]) 2 32 Try.underlying25 hi hz0 hz1 hz2 rfl (by decide) _ _ _ rfl (World.ownsRow.alloc hown.out _) ⟨wr.heap.size, 0, none⟩ 1 1 [.string key, .string via] rfl rfl (cell_two_new _ _ _ _) (by simp [Value.oneCell']) (by unfold maxLen; omega) (by omega) (by simp; omega) ?_; intro v' wn hown3 hgrow3 _; have R := op2_snoc hnx (by omega) hown.out hown3 hgrow3; clear hown3 hgrow3)
        have HF : Hid (Op2 wn wc.heap.size v' ((ks.zip vs).take j ++ [(key, via)] ++ ((ks.zip vs).take j).drop j)) := by show Op2 _ _ _ _; rw [drop_take_self, List.append_nil]; exact R.1
        have hb5 := R.2
        clear R hown hnx hkk hXl hsz
        go_loopw [15, 17] (fun u i wr => ∃ t : Nat, j ≤ t ∧ t ≤ len ∧ i = .int .i64 t ∧ Hid (Op2 wr wc.heap.size u ((ks.zip vs).take j ++ [(key, via)] ++ ((ks.zip vs).take t).drop j)) ∧ Below wc.heap.size wc wr) (fun _ i _ => len - (intOf i).toNat)
        case atStart => exact ⟨j, Nat.le_refl _, hkl, rfl, HF, hb5⟩
        case round =>
          obtain ⟨t, ht0, ht, rfl, hown, hnx⟩ := hrel
          clear HF hb5
          have hsz := hnx.size
          by_cases hlt : t < len
          · obtain ⟨b, off, hab, hb, hc⟩ := HP4.out.cells (by omega)
            simp only [Option.some.injEq, Addr.mk.injEq, and_true] at hab
            obtain ⟨rfl, rfl⟩ := hab
            have hc1 : wr.cell? ⟨g, 0 + t * 2, none⟩ = some (.string (ks[t]?.getD E0)) := (hnx.cell (p := ⟨g, 0 + t * 2, none⟩) hb).trans (hc t (by omega)).1
            have hc2 : wr.cell? ⟨g, 0 + t * 2 + 1, none⟩ = some (.string (vs[t]?.getD E0)) := (hnx.cell (p := ⟨g, 0 + t * 2 + 1, none⟩) hb).trans (hc t (by omega)).2
            rw [Nat.zero_add] at hc1 hc2
            have HST : Hid ((ks.zip vs).take j ++ [(key, via)] ++ ((ks.zip vs).take (t + 1)).drop j = ((ks.zip vs).take j ++ [(key, via)] ++ ((ks.zip vs).take t).drop j) ++ [(ks[t]?.getD E0, vs[t]?.getD E0)]) := by show _ = _; rw [zip_drop_succ ks vs j t ht0 (by rw [HP4.out.size]; omega) (by rw [HP4.out.sizev]; omega)]; simp only [List.append_assoc]
            have hXl : ((ks.zip vs).take j ++ [(key, via)] ++ ((ks.zip vs).take t).drop j).length ≤ len + len + 1 := by simp only [List.length_append, List.length_drop, List.length_take, List.length_cons, List.length_nil]; omega
            have hkj : (t : Int) < (len : Int) := by omega
            clear hc
            generalize ks[t]?.getD E0 = s at *
            generalize vs[t]?.getD E0 = v at *
            generalize (ks.zip vs).take j ++ [(key, via)] ++ ((ks.zip vs).take t).drop j = X at *
            go_wp2_with (at_builtin; refine wpList_append_own _ rfl _ _ 25 rfl wc.heap.size 32 i0 (.agg #[.string ⟨#[]⟩, .string ⟨#[]⟩]) 2 32 Try.underlying25 hi hz0 hz1 hz2 rfl (by decide) _ _ _ rfl (World.ownsRow.alloc hown.out _) ⟨wr.heap.size, 0, none⟩ 1 1 [.string s, .string v] rfl rfl (cell_two_new _ _ _ _) (by simp [Value.oneCell']) (by unfold maxLen; omega) (by omega) (by simp; omega) ?_; intro v' wn hown3 hgrow3 _; have R := op2_snoc hnx (by omega) hown.out hown3 hgrow3; clear hown3 hgrow3)
            have R1 : Hid (Op2 wn wc.heap.size v' ((ks.zip vs).take j ++ [(key, via)] ++ ((ks.zip vs).take (t + 1)).drop j)) := by rw [HST.out]; exact R.1
            have R3 := R.2
            clear R
            go_wp2
            go_roundw
            case rel => exact ⟨t + 1, by omega, by omega, by go_num, R1, R3⟩
            case measure => simp [intOf]; omega
          · obtain rfl : t = len := by omega
            have hkk : decide ((t : Int) < (t : Int)) = false := by simp
            have HGR := grown_calls al hown.out hkl HP4.out.size HP4.out.sizev HS.out HKY.out hlen
            clear hown
            obtain ⟨a5, c5, rfl, hcall⟩ := HGR
            have HC8 := hid hcall
            clear hcall
            have HY := sig_cut ks j key
            have hn1 := sig_len ks
            have hn2 := sig_len (ks.take j)
            have hn3 := sig_len (ks.drop j)
            have hks := HP4.out.size
            rw [List.length_take, hks] at hn2
            rw [List.length_drop, hks] at hn3
            rw [hks] at hn1
            have HW := hid HY.1
            have HI := hid HY.2
            clear HY
            have HB2r : Hid (Below w2.heap.size w2 wr) := (HB23.out.trans (HB34.out.mono h23)).trans (hnx.mono (by omega))
            have HB3r : Hid (Below w3.heap.size w3 wr) := HB34.out.trans (hnx.mono h34)
            have HBr : Hid (Below w.heap.size w wr) := HB4.out.trans (hnx.mono HB4.out.size)
            have HN9 : Hid (∀ w : World, Calls Try.prog 9 #[.string key] w fun e w' => e = .returned (.bool (names key)) ∧ w = w') := fun w => names_any key w HKY.out
            have HO2r : Hid (Ow wr w1.heap.size v2 (sig ks)) := HO2.out.kept HB2r.out
            have HO3r : Hid (Ow wr w2.heap.size v3 (sig (ks.take j))) := HO3.out.kept HB3r.out
            have HO4r : Hid (Ow wr w3.heap.size u14 (sig (ks.drop j))) := HO4.out.kept hnx
            clear HO2 HO3 HO4 HB2r HB3r HB4 HP4 HB34 HB23 HB2 hnx
            go_upto_if 112 with (first | (go_at_call 8; refine HC8.out.mono ?_; rintro e w6 ⟨v6, rfl, ho, hn, hb⟩; have HO6 := hid ho; have HN6 := hid hn; have HB6 := hid hb; clear ho hn hb) | (go_at_call 9; refine (HN9.out _).mono ?_; rintro e w7 ⟨rfl, rfl⟩))
            go_cut [19] (fun u ws => ∃ a l c, u = .slice a l c ∧ l ≤ 1 ∧ Hid (Ss ws ws.heap.size a l c (sig [key])) ∧ Hid (Below w6.heap.size w6 ws))
            case first =>
              cases hnm : names key with
              | true =>
                have HZ : Hid (sig [key] = []) := by show _ = _; rw [sig_one, hnm]; rfl
                go_wp2
                go_meet
                case rel => exact ⟨_, _, _, rfl, Nat.zero_le _, by rw [HZ.out]; exact ss_none _ _, Below.refl _ _⟩
              | false =>
                have HZ : Hid (sig [key] = [key]) := by show _ = _; rw [sig_one, hnm]; rfl
                go_wp2
                go_meet
                case rel => exact ⟨_, _, _, rfl, Nat.le_refl _, by rw [HZ.out]; exact ss_one _ _, (Below.refl _ _).alloc (Nat.le_refl _) _⟩
            case rest =>
              obtain ⟨a7, l7, c7, rfl, hl7, HS7, HB7⟩ := hcut
              have HBrc : Hid (Below wr.heap.size wr wc) := HB6.out.trans (HB7.out.mono HB6.out.size)
              have HBc : Hid (Below w.heap.size w wc) := HBr.out.trans (HBrc.out.mono HBr.out.size)
              obtain ⟨a2, l2, c2, rfl, hs2, hni2⟩ := ow_nil (HO2r.out.kept HBrc.out) HN2.out
              obtain ⟨a6, l6, c6, rfl, hs6, hni6⟩ := ow_nil (HO6.out.kept HB7.out) HN6.out
              obtain ⟨a3, l3, c3, rfl, hs3⟩ := ow_ssl (HO3r.out.kept HBrc.out)
              obtain ⟨a4, l4, c4, rfl, hs4⟩ := ow_ssl (HO4r.out.kept HBrc.out)
              have hl2 := hs2.size
              have hl3 := hs3.size
              have hl4 := hs4.size
              have hl6 := hs6.size
              have hn6 := sig_len (ks.take j ++ ([key] ++ ks.drop j))
              rw [grown_len] at hn6
              have HS2 := hid hs2
              have HS3 := hid hs3
              have HS4 := hid hs4
              have HS6 := hid hs6
              clear hs2 hs3 hs4 hs6 HO2r HO3r HO4r HO6 HN2 HN6 HB6 HB7 HBrc HBr HC8 HN9
              go_upto_region 28 with (go_at_call 10; refine (seam_any a3 l3 c3 a4 l4 c4 _ _ wc HS3.out HS4.out (by omega) (by omega)).mono ?_; rintro e w8 ⟨v8, rfl, ho, hb⟩; have HB8 := hid hb; obtain ⟨a8, l8, c8, rfl, hs8⟩ := ow_ssl ho; have HS8 := hid hs8; clear ho hb hs8)
              have h8 := HB8.out.size
              go_wp2_with (go_at_call_of 10 (Value.slice a7 l7 c7); refine (seam_any a3 l3 c3 a7 l7 c7 _ _ w8 (HS3.out.on HB8.out) (HS7.out.on HB8.out) (by omega) (by omega)).mono ?_; rintro e w9 ⟨v9, rfl, ho, hb⟩; have HB9 := hid hb; obtain ⟨a9, l9, c9, rfl, hs9⟩ := ow_ssl ho; have hl9 : l9 ≤ l3 + l7 := (by have h1 := hs9.size; have h2 := seam_len (sig (ks.take j)) (sig [key]); have h3 := HS7.out.size; omega); have HS9 := hid hs9; clear ho hb hs9)
              have h9 := HB9.out.size
              have HBc9 : Hid (Below wc.heap.size wc w9) := HB8.out.trans (HB9.out.mono h8)
              go_wp2_with (go_at_call_of 10 (Value.slice a9 l9 c9); refine (seam_any a9 l9 c9 a4 l4 c4 _ _ w9 HS9.out (HS4.out.on HBc9.out) (by omega) (by omega)).mono ?_; rintro e w10 ⟨v10, rfl, ho, hb⟩; have HB10 := hid hb; obtain ⟨a10, l10, c10, rfl, hs10⟩ := ow_ssl ho; have HS10 := hid hs10; clear ho hb hs10)
              have h10 := HB10.out.size
              have HBc10 : Hid (Below wc.heap.size wc w10) := HBc9.out.trans (HB10.out.mono (by omega))
              have HB8t : Hid (Below w8.heap.size w8 w10) := HB9.out.trans (HB10.out.mono h9)
              have HF1 : Hid (Calls Try.prog 11 #[.slice a2 l2 c2, .slice a8 l8 c8] w10 fun e w' => e = .returned (.bool true) ∧ ∃ n, w' = w10.drewN n) := same_yes a2 l2 c2 a8 l8 c8 _ _ w10.heap.size w10 (HS2.out.on HBc10.out) (HS8.out.on HB8t.out) (by omega) HW.out
              have HF2 : Hid (∀ n1, Calls Try.prog 11 #[.slice a6 l6 c6, .slice a10 l10 c10] (w10.drewN n1) fun e w' => e = .returned (.bool true) ∧ ∃ n, w' = (w10.drewN n1).drewN n) := fun n1 => same_yes a6 l6 c6 a10 l10 c10 _ _ w10.heap.size _ ((HS6.out.on HBc10.out).later (below_draw (Below.refl _ _) n1)) (HS10.out.later (below_draw (Below.refl _ _) n1)) (by omega) HI.out
              have HBf : Hid (Below w.heap.size w w10) := HBc.out.trans (HBc10.out.mono HBc.out.size)
              have hq := fun (w : World) (a : Option Addr) (n c : Nat) => Lib.run_eql_slice_nil (P := Try.prog) w 27 9 a n c 0 0 Try.underlying27
              clear HS2 HS3 HS4 HS6 HS7 HS8 HS9 HS10 HB8 HB9 HB10 HBc9 HBc10 HB8t HW HI HBc
              go_wp2_with (first | (go_at_call_of 11 (Value.slice a8 l8 c8); refine HF1.out.mono ?_; rintro e w11 ⟨rfl, n1, rfl⟩) | (go_at_call_of 11 (Value.slice a10 l10 c10); refine (HF2.out _).mono ?_; rintro e w12 ⟨rfl, n2, rfl⟩))
              go_ret
              exact ⟨rfl, below_draw HBf.out _⟩

end Go.Proofs.Qxb6629191a
