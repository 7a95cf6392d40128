/-
  Seat b6629191a: the walk of the law of the keys.
-/
import Derived.Test.Qxb6629191aCut
import Derived.Test.Qxb6629191aPlain2
import Derived.Test.Qxb6629191aMap
import Derived.Deep.RegionLaw
namespace Go.Proofs.Qxb6629191a
open Go.RowKit Sg

/-- append onto a row of the call's own, as one step of a region that draws. -/
theorem step_append_own {P : Program} {ops : Array Oper} {o : Oper} {a : Act} {w : World} {K : Act → World → Prop} {Q : Exit → Act → World → Prop} {E : Prop}
    (hg : o.guard = none) (s x : Operand) (t : TypeId) (ho : o.op = .call { callee := .builtin .append, args := #[s, x], argTypes := #[t, t] })
    (base : Nat) (e : TypeId) (i : TypeInfo) (z : Value) (size bytes : Nat) (ht : P.underlying t = some (.slice e)) (hi : P.info? e = some i) (hz : i.zero = some z)
    (hsize : i.size = size) (hby : i.bytes = bytes) (hzs : z.cells.size = size) (hsz : 0 < size)
    (v : Value) (n : Nat) (xs : List Value) (hs : a.eval s = v) (hown : w.ownsRow base e size v n xs)
    (ad : Addr) (m c : Nat) (news : List Value) (hx : a.eval x = .slice (some ad) m c) (hl : news.length = m * size) (hnews : ∀ j u, news[j]? = some u → w.cell? (ad.add j) = some u) (h1 : ∀ u ∈ news, u.oneCell' = true)
    (h63 : n + m ≤ maxLen) (hbytes : (n + m) * bytes ≤ 140737488355328) (hbase : base ≤ w.heap.size)
    (h : ∀ v' w', w'.ownsRow base e size v' (n + m) (xs ++ news) → w.grownBy w' v.ownBlock → (v' = .slice none 0 0 ↔ v = .slice none 0 0 ∧ m = 0) → K (a.put o.dst v') w') :
    if Region.wanted o (yielded ops a.tmps) = true then Oper.wp P o a w K Q else E := by
  have hw : Region.wanted o (yielded ops a.tmps) = true := by simp [Region.wanted, hg]
  rw [if_pos hw]
  exact wp_append_own w s x t ho base e i z size bytes ht hi hz hsize hby hzs hsz v n xs hs hown ad m c news hx hl hnews h1 h63 hbytes hbase h

theorem cells_new (w : World) (L : List Value) (t : TypeId) : ∀ j u, L[j]? = some u → (w.alloc (.cells L.toArray t)).cell? ((⟨w.heap.size, 0, none⟩ : Addr).add j) = some u := by
  intro j u hj
  rw [Addr.add_lit, Nat.zero_add]
  refine (World.cell?_alloc_at (w := w) L.toArray t w.heap.size j rfl).trans ?_
  simpa using hj

/-- the proof told anew: each key step twice, its via replaced -/
def PS (via : ByteArray) (ks : List ByteArray) : List (ByteArray × ByteArray) := ks.flatMap fun k => if names k then [] else [(k, via), (k, via)]

theorem PS_take (via : ByteArray) (ks : List ByteArray) (j : Nat) (h : j < ks.length) : PS via (ks.take (j + 1)) = PS via (ks.take j) ++ if names (ks[j]?.getD E0) then [] else [(ks[j]?.getD E0, via), (ks[j]?.getD E0, via)] := by
  rw [List.take_add_one, List.getElem?_eq_getElem h, Option.toList_some, Option.getD_some]
  unfold PS
  rw [List.flatMap_append, List.flatMap_singleton]

theorem PS_len (via : ByteArray) (ks : List ByteArray) : (PS via ks).length ≤ 2 * ks.length := by
  induction ks with
  | nil => simp [PS]
  | cons k ks ih =>
    have e : PS via (k :: ks) = (if names k then [] else [(k, via), (k, via)]) ++ PS via ks := rfl
    rw [e, List.length_append, List.length_cons]
    split <;> simp only [List.length_nil, List.length_cons] <;> omega

theorem PS_fst (via : ByteArray) (ks : List ByteArray) : (PS via ks).map (·.1) = dbl ks := by
  induction ks with
  | nil => rfl
  | cons k ks ih =>
    have e : PS via (k :: ks) = (if names k then [] else [(k, via), (k, via)]) ++ PS via ks := rfl
    have e2 : dbl (k :: ks) = (if names k then [] else [k, k]) ++ dbl ks := rfl
    rw [e, e2, List.map_append, ih]
    split <;> rfl

theorem dbl_mem {ks : List ByteArray} {x : ByteArray} (h : x ∈ dbl ks) : x ∈ ks := by
  unfold dbl at h
  obtain ⟨k, hk, hx⟩ := List.mem_flatMap.1 h
  by_cases hn : names k = true
  · rw [if_pos hn] at hx; simp at hx
  · rw [if_neg hn] at hx
    have : x = k := by simpa using hx
    rw [this]; exact hk

theorem op2_snoc2 {w w1 w2 : World} {B : Nat} {u v' : Value} {X : List (ByteArray × ByteArray)} {s v : ByteArray} {w0 : World} (hnx : Below B w0 w2) (hB : B ≤ w2.heap.size) (hown : Op2 w B u X)
    (hown1 : w1.ownsRow B 32 2 v' (X.length + 2) (flat X ++ [.string s, .string v, .string s, .string v])) (hgrow : w2.grownBy w1 u.ownBlock) : Op2 w1 B v' (X ++ [(s, v), (s, v)]) ∧ Below B w0 w1 :=
  ⟨by unfold Op2; rw [show X ++ [(s, v), (s, v)] = (X ++ [(s, v)]) ++ [(s, v)] by simp, flat_snoc, flat_snoc, List.length_append, List.length_append]; simpa using hown1, hnx.grown hgrow hB (fun j hj => (World.ownsRow.lt hown j hj).1)⟩

/-- the key steps' keys -/
def nk (ks : List ByteArray) : List ByteArray := ks.filter fun k => !names k

theorem nk_take (ks : List ByteArray) (j : Nat) (h : j < ks.length) : nk (ks.take (j + 1)) = nk (ks.take j) ++ if names (ks[j]?.getD E0) then [] else [ks[j]?.getD E0] := by
  rw [List.take_add_one, List.getElem?_eq_getElem h, Option.toList_some, Option.getD_some]
  unfold nk
  rw [List.filter_append]
  by_cases hn : names ks[j] = true
  · rw [if_pos hn]; simp [hn]
  · rw [if_neg hn]; simp [hn]

theorem mem_snoc {X : List ByteArray} {s : ByteArray} : ∀ x ∈ X ++ if false = true then [] else [s], x = s ∨ x ∈ X := by
  intro x hx
  simp at hx
  rcases hx with h | h
  · exact .inr h
  · exact .inl h

theorem Has.more {w : World} {b n n' : Nat} {S S' : List ByteArray} (h : Has w b n S) (hn : n ≤ n') (hs : ∀ x ∈ S', x ∈ S) : Has w b n' S' := by
  obtain ⟨D, h1, h2⟩ := h
  exact ⟨D, h1.mono hn, fun x hx => h2 x (hs x hx)⟩

theorem mem_snoc' {X : List ByteArray} {s : ByteArray} : ∀ x ∈ X ++ [s], x = s ∨ x ∈ X := by
  intro x hx
  simp at hx
  rcases hx with h | h
  · exact .inr h
  · exact .inl h

theorem getD_mem {X : List ByteArray} {t : Nat} (h : t < X.length) : X[t]?.getD E0 ∈ X := by
  rw [List.getElem?_eq_getElem h]
  exact List.getElem_mem h

theorem mem_nk {ks : List ByteArray} {s : ByteArray} (h : s ∈ ks) (hn : names s = false) : s ∈ nk ks := by
  unfold nk
  rw [List.mem_filter]
  exact ⟨h, by simp [hn]⟩

theorem re_calls (al : Bool) {wr : World} {B : Nat} {u : Value} {ks : List ByteArray} {via : ByteArray} {len : Nat} (h : Op2 wr B u (PS via ks)) (h1 : ks.length = len)
    (hs : ∀ i, i < len → (ks[i]?.getD E0).size ≤ maxLen) (hl : len ≤ 32768) :
    ∃ a l c, u = .slice a l c ∧ l ≤ 65536 ∧ Calls Try.prog 8 #[.agg #[.bool al, .slice a l c]] wr fun e w' => ∃ v, e = .returned v ∧ Ow w' wr.heap.size v (sig ks) ∧ Below wr.heap.size wr w' := by
  obtain ⟨a, c, hu, hp⟩ := op2_pr h
  rw [PS_fst] at hp
  have hl2 := PS_len via ks
  refine ⟨a, _, c, hu, by omega, (sig_any al a _ c _ _ wr hp (fun i _ => size_at (fun x hx => size_mem h1 hs x (dbl_mem hx)) i) (by omega)).mono fun e w' h => ?_⟩
  obtain ⟨v, h3, h4, _, h5⟩ := h
  rw [sig_dbl] at h4
  exact ⟨v, h3, h4, h5⟩

set_option maxHeartbeats 8000000 in
set_option maxRecDepth 100000 in
theorem keys_walk (al : Bool) (a : Option Addr) (len cap : Nat) (ks vs : List ByteArray) (via : ByteArray) (w : World) (hrd : Pr w w.heap.size a len cap ks vs)
    (hk : ∀ i, i < len → (ks[i]?.getD E0).size ≤ maxLen) (hv : ∀ i, i < len → (vs[i]?.getD E0).size ≤ maxLen) (hvia : via.size ≤ maxLen) :
    Calls Try.prog 4 #[.bool al, .slice a len cap, .string via] w fun e w' => e = .returned (.bool true) ∧ Below w.heap.size w w' := by
  obtain ⟨i0, hi, hz0, hz1, hz2⟩ := info_parts Try.info32
  have HR : Hid (Pr w w.heap.size a len cap ks vs) := hrd
  have HS : Hid (∀ i, i < len → (ks[i]?.getD E0).size ≤ maxLen) := hk
  have HB := bytes_keys al a len cap ks vs via w.heap.size w hrd hk hv hvia
  clear hrd hk hv
  unfold maxLen at hvia
  by_cases hvb : 1048576 < via.size
  · have q1 : (1048576 : Int) < (via.size : Int) := by omega
    go_enter Try.func4, Try.ntmps4
    go_wp2_with (go_at_call 12; refine HB.mono ?_; rintro e w2 ⟨r, rfl, hr, rfl⟩; cases r)
    all_goals
      go_ret
      exact ⟨rfl, Below.refl _ _⟩
  have HG : Hid (Small len ks vs → Calls Try.prog 6 #[.slice a len cap, .int .i64 (via.size : Int)] w fun e w' => ∃ r : Bool, e = .returned (.bool r) ∧ (r = false → len ≤ 32768) ∧ ∃ n, w' = w.drewN n) := by
    intro h3
    exact big_any a len cap ks vs via.size w.heap.size w HR.out (fun i hi => (h3.2 i hi).1) (fun i hi => (h3.2 i hi).2) (by omega) (by have := h3.1; omega)
  have q1 : decide (1048576 < via.size) = false := decide_eq_false hvb
  go_enter Try.func4, Try.ntmps4
  go_wp2_with (first | (go_at_call 12; refine HB.mono ?_; rintro e w2 ⟨r, rfl, hr, rfl⟩; cases r; rotate_left; have hr2 := hr rfl; have HG2 := HG.out hr2) | (go_at_call 6; refine HG2.mono ?_; rintro e w3 ⟨r, rfl, hr3, m, rfl⟩; cases r))
  rotate_left
  · go_ret
    exact ⟨rfl, below_draw (Below.refl _ _) _⟩
  · go_ret
    exact ⟨rfl, Below.refl _ _⟩
  have hlen : len ≤ 32768 := by simpa using hr3
  have HP0 : Hid (Pr (w.drewN m) (w.drewN m).heap.size a len cap ks vs) := HR.out.later (below_draw (Below.refl _ _) m)
  have HB0 : Hid (Below w.heap.size w (w.drewN m)) := below_draw (Below.refl _ _) m
  clear HB HG HG2 hr hr2 hr3 q1 HR
  have hw1 : IntKind.i64.wrap (2 * (len : Int)) = 2 * (len : Int) := wrap_small _ (by omega) (by omega)
  go_wp2_with (go_at_call 7; refine (steps_any a len cap ks vs _ HP0.out (by omega)).mono ?_; rintro e w1 ⟨g, rfl, hg, hp, hb⟩; have HB1 : Hid (Below w.heap.size w w1) := HB0.out.trans hb; have HP1 : Hid (Pr w1 w1.heap.size (some ⟨g, 0, none⟩) len len ks vs) := hp; clear hp hb hg HP0 HB0)
  go_upto_region 9 with (go_at_call 8; refine (sig_any al _ len len ks vs w1 HP1.out HS.out (by omega)).mono ?_; rintro e w2 ⟨v2, rfl, ho2, hn2, hb2⟩; have HO2 : Hid (Ow w2 w1.heap.size v2 (sig ks)) := ho2; have HP2 : Hid (Pr w2 w2.heap.size (some ⟨g, 0, none⟩) len len ks vs) := (HP1.out.later hb2).wider hb2.size; have HB2 : Hid (Below w.heap.size w w2) := HB1.out.trans (hb2.mono HB1.out.size); clear ho2 hn2 hb2 HP1 HB1)
  go_wp2_with (at_make; refine wpList_make_own _ rfl _ _ 25 rfl w2.heap.size 32 i0 (.agg #[.string ⟨#[]⟩, .string ⟨#[]⟩]) 2 Try.underlying25 hi hz0 hz1 _ _ _ (2 * len) rfl rfl ?b1 ?b2 ?b3 ?b4 ?_)
  case b1 => go_num
  case b2 => rw [hz2]; omega
  case b3 => unfold maxLen; omega
  case b4 => exact Nat.le_refl _
  intro w5 hown5 hgrow5
  have hb5 : Below w2.heap.size w2 w5 := (Below.refl _ _).grown hgrow5 (Nat.le_refl _) (fun k h => by cases h)
  have HF : Hid (Op2 w5 w2.heap.size (.slice (some ⟨w2.heap.size, 0, none⟩) 0 (2 * len)) (PS via (ks.take 0))) := by show Op2 _ _ _ _; rw [List.take_zero]; exact hown5
  clear hown5 hgrow5
  go_wp2
  go_loopw [9, 10] (fun u i wr => ∃ j : Nat, j ≤ len ∧ i = .int .i64 j ∧ Hid (Op2 wr w2.heap.size u (PS via (ks.take j))) ∧ Below w2.heap.size w2 wr) (fun _ i _ => len - (intOf i).toNat)
  case atStart => exact ⟨0, Nat.zero_le _, rfl, HF, hb5⟩
  case round =>
    obtain ⟨j, hj, rfl, hown, hnx⟩ := hrel
    clear HF hb5
    have hsz := hnx.size
    by_cases hlt : j < len
    · obtain ⟨b, off, hab, hb, hc⟩ := HP2.out.cells (by omega)
      simp only [Option.some.injEq, Addr.mk.injEq, and_true] at hab
      obtain ⟨rfl, rfl⟩ := hab
      have hc1 : wr.cell? ⟨g, 0 + j * 2, none⟩ = some (.string (ks[j]?.getD E0)) := (hnx.cell (p := ⟨g, 0 + j * 2, none⟩) hb).trans (hc j (by omega)).1
      rw [Nat.zero_add] at hc1
      have HST : Hid (PS via (ks.take (j + 1)) = PS via (ks.take j) ++ if names (ks[j]?.getD E0) then [] else [(ks[j]?.getD E0, via), (ks[j]?.getD E0, via)]) := PS_take via ks j (by rw [HP2.out.size]; omega)
      have hXl : (PS via (ks.take j)).length ≤ 2 * len := Nat.le_trans (PS_len via _) (by rw [List.length_take]; omega)
      have HN := names_any (ks[j]?.getD E0) wr (HS.out j hlt)
      have hkj : (j : Int) < (len : Int) := by omega
      clear hc
      generalize ks[j]?.getD E0 = s at *
      generalize PS via (ks.take j) = X at *
      cases hnm : names s with
      | true =>
        rw [hnm] at HN HST
        have HST2 : Hid (PS via (ks.take (j + 1)) = X) := by show _ = _; rw [HST.out]; simp
        have R1 : Hid (Op2 wr w2.heap.size u9 (PS via (ks.take (j + 1)))) := by rw [HST2.out]; exact hown
        go_wp2_with (go_at_call 9; refine HN.mono ?_; rintro e w6 ⟨rfl, rfl⟩)
        go_roundw
        case rel => exact ⟨j + 1, by omega, by go_num, R1, hnx⟩
        case measure => simp [intOf]; omega
      | false =>
        rw [hnm] at HN HST
        have HST2 : Hid (PS via (ks.take (j + 1)) = X ++ [(s, via), (s, via)]) := by show _ = _; rw [HST.out]; simp
        go_wp2_with (go_at_call 9; refine HN.mono ?_; rintro e w6 ⟨rfl, rfl⟩)
        go_region_law (refine step_append_own rfl (.tmp 58) (.tmp 73) 25 rfl w2.heap.size 32 i0 (.agg #[.string ⟨#[]⟩, .string ⟨#[]⟩]) 2 32 Try.underlying25 hi hz0 hz1 hz2 rfl (by decide) _ _ _ rfl (World.ownsRow.drew (World.ownsRow.alloc hown.out _)) ⟨wr.heap.size, 0, none⟩ 2 2 [.string s, .string via, .string s, .string via] rfl rfl (by exact cells_new _ _ _) (by simp [Value.oneCell']) (by unfold maxLen; omega) (by omega) (by simp; omega) ?_; intro v' wn hown3 hgrow3 _; have R := op2_snoc2 (hnx.alloc hsz _).drew (by simp; omega) hown.out hown3 hgrow3; clear hown3 hgrow3; have R1 : Hid (Op2 wn w2.heap.size v' (PS via (ks.take (j + 1)))) := (by rw [HST2.out]; exact R.1); have R3 := R.2; clear R)
        all_goals
          go_wp2
          go_roundw
          case rel => exact ⟨j + 1, by omega, by go_num, R1, R3⟩
          case measure => simp [intOf]; omega
    · obtain rfl : j = len := by omega
      rw [List.take_of_length_le (by rw [HP2.out.size]; exact Nat.le_refl _)] at hown
      obtain ⟨a5, l5, c5, rfl, hl5, hcall⟩ := re_calls (!al) hown.out HP2.out.size HS.out hlen
      have HC8 := hid hcall
      clear hcall hown
      have hn1 := sig_len ks
      have hks := HP2.out.size
      rw [hks] at hn1
      have HO2r : Hid (Ow wr w1.heap.size v2 (sig ks)) := HO2.out.kept hnx
      have HPr : Hid (Pr wr wr.heap.size (some ⟨g, 0, none⟩) j j ks vs) := (HP2.out.later hnx).wider hsz
      have HBr : Hid (Below w.heap.size w wr) := HB2.out.trans (hnx.mono HB2.out.size)
      clear HO2 HP2 HB2 hnx
      go_upto_region 16 with (go_at_call 8; refine HC8.out.mono ?_; rintro e w6 ⟨v6, rfl, ho, hb⟩; have HO6 := hid ho; have HB6 := hid hb; clear ho hb)
      have HO2s : Hid (Ow w6 w1.heap.size v2 (sig ks)) := HO2r.out.kept HB6.out
      obtain ⟨a2, l2, c2, rfl, hs2⟩ := ow_ssl HO2s.out
      obtain ⟨a6, l6, c6, rfl, hs6⟩ := ow_ssl HO6.out
      have hl2 := hs2.size
      have HF1 : Hid (Calls Try.prog 11 #[.slice a2 l2 c2, .slice a6 l6 c6] w6 fun e w' => e = .returned (.bool true) ∧ ∃ n, w' = w6.drewN n) := same_yes a2 l2 c2 a6 l6 c6 _ _ w6.heap.size w6 hs2 hs6 (by omega) rfl
      have HP6 : Hid (Pr w6 w6.heap.size (some ⟨g, 0, none⟩) j j ks vs) := (HPr.out.later HB6.out).wider HB6.out.size
      have HBw : Hid (Below w.heap.size w w6) := HBr.out.trans (HB6.out.mono HBr.out.size)
      have HS2 := hid hs2
      clear hs2 hs6 HO2s HO6 HO2r HPr HBr HB6 HC8
      have hmm := @run_makeMap Try.prog
      go_wp2_with (go_at_call 11; refine HF1.out.mono ?_; rintro e w11 ⟨rfl, n1, rfl⟩)
      have HH0 : Hid (Has ((w6.drewN n1).alloc (.map #[] 0)) w6.heap.size 0 (nk (ks.take 0))) := by rw [List.take_zero]; exact has_made (w6.drewN n1)
      have hb0 : Below w6.heap.size w6 ((w6.drewN n1).alloc (.map #[] 0)) := (below_draw (Below.refl _ _) n1).alloc (Nat.le_refl _) _
      clear HF1
      go_loopw [13, 14, 15, 16] (fun so se pv i wr => ∃ k : Nat, k ≤ j ∧ i = .int .i64 k ∧ so = .bool (st (ks.take k)).1 ∧ se = .bool (st (ks.take k)).2.1 ∧ pv = .string (st (ks.take k)).2.2 ∧ Hid (Has wr w6.heap.size k (nk (ks.take k))) ∧ Below w6.heap.size w6 wr) (fun _ _ _ i _ => j - (intOf i).toNat)
      case atStart => exact ⟨0, Nat.zero_le _, rfl, rfl, rfl, rfl, HH0, hb0⟩
      case round =>
        obtain ⟨k, hkj, rfl, rfl, rfl, rfl, hhas, hnx⟩ := hrel
        clear HH0 hb0
        have hsz := hnx.size
        by_cases hlt : k < j
        · obtain ⟨b, off, hab, hb, hc⟩ := HP6.out.cells (by omega)
          simp only [Option.some.injEq, Addr.mk.injEq, and_true] at hab
          obtain ⟨rfl, rfl⟩ := hab
          have hc1 : wr.cell? ⟨g, 0 + k * 2, none⟩ = some (.string (ks[k]?.getD E0)) := (hnx.cell (p := ⟨g, 0 + k * 2, none⟩) hb).trans (hc k (by omega)).1
          rw [Nat.zero_add] at hc1
          have HST : Hid (st (ks.take (k + 1)) = st1 (st (ks.take k)) (ks[k]?.getD E0)) := st_take ks k (by rw [HP6.out.size]; omega)
          have HNK : Hid (nk (ks.take (k + 1)) = nk (ks.take k) ++ if names (ks[k]?.getD E0) then [] else [ks[k]?.getD E0]) := nk_take ks k (by rw [HP6.out.size]; omega)
          have HN := names_any (ks[k]?.getD E0) wr (HS.out k (by omega))
          have HKY : Hid (keyOf Try.prog 9 (.string (ks[k]?.getD E0)) = some (kl (ks[k]?.getD E0))) := Go.WideMaps.keyOf_string_mk Try.underlying9 (HS.out k (by omega))
          have hki : (k : Int) < (j : Int) := by omega
          clear hc
          generalize ks[k]?.getD E0 = s at *
          generalize st (ks.take k) = q at *
          obtain ⟨so, se, pv⟩ := q
          cases hnm : names s with
          | true =>
            rw [hnm] at HN HNK
            have R1 : Hid (Has wr w6.heap.size (k + 1) (nk (ks.take (k + 1)))) := by rw [HNK.out]; exact hhas.out.more (by omega) (fun x hx => by simpa using hx)
            have HST2 : Hid (st (ks.take (k + 1)) = (so, se, pv)) := by show _ = _; rw [HST.out, st1, if_pos hnm]
            clear HST HNK hhas
            go_wp2_with (go_at_call 9; refine HN.mono ?_; rintro e w7 ⟨rfl, rfl⟩)
            go_roundw
            case rel => exact ⟨k + 1, by omega, by go_num, by rw [HST2.out], by rw [HST2.out], by rw [HST2.out], R1, hnx⟩
            case measure => simp [intOf]; omega
          | false =>
            rw [hnm] at HN HNK
            have HST2 : Hid (st (ks.take (k + 1)) = (so && !(se && Op.bytesLess s.toList pv.toList), true, s)) := by show _ = _; rw [HST.out, st1, if_neg (by simp [hnm])]; rfl
            obtain ⟨D, hD, hS⟩ := hhas.out
            clear HST hhas
            cases hls : Op.bytesLess s.toList pv.toList with
            | true =>
              cases se with
              | true =>
                go_wp2_with (first | (go_at_call 9; refine HN.mono ?_; rintro e w7 ⟨rfl, rfl⟩) | (at_mapUpdate; refine wpList_mapUpdate_own _ rfl _ _ _ 37 rfl 9 4 K9 Try.underlying37 _ w6.heap.size k D rfl hD (by unfold maxLen; omega) _ _ (kl s) rfl rfl HKY.out (.lit (.bool true)) [] (plainElem_bool Try.underlying4 true) ?_; intro wn hown1 hgrow1))
                have R1 : Hid (Has wn w6.heap.size (k + 1) (nk (ks.take (k + 1)))) := by rw [HNK.out]; exact has_put hD.isMap hown1 hS mem_snoc
                have R3 : Below w6.heap.size w6 wn := hnx.grown hgrow1 hnx.size (fun q hq => by cases hq; exact Nat.le_refl _)
                clear hown1 hgrow1 hD hS
                go_wp2
                go_roundw
                case rel => exact ⟨k + 1, by omega, by go_num, by rw [HST2.out, hls]; simp, by rw [HST2.out], by rw [HST2.out], R1, R3⟩
                case measure => simp [intOf]; omega
              | false =>
                go_wp2_with (first | (go_at_call 9; refine HN.mono ?_; rintro e w7 ⟨rfl, rfl⟩) | (at_mapUpdate; refine wpList_mapUpdate_own _ rfl _ _ _ 37 rfl 9 4 K9 Try.underlying37 _ w6.heap.size k D rfl hD (by unfold maxLen; omega) _ _ (kl s) rfl rfl HKY.out (.lit (.bool true)) [] (plainElem_bool Try.underlying4 true) ?_; intro wn hown1 hgrow1))
                have R1 : Hid (Has wn w6.heap.size (k + 1) (nk (ks.take (k + 1)))) := by rw [HNK.out]; exact has_put hD.isMap hown1 hS mem_snoc
                have R3 : Below w6.heap.size w6 wn := hnx.grown hgrow1 hnx.size (fun q hq => by cases hq; exact Nat.le_refl _)
                clear hown1 hgrow1 hD hS
                go_wp2
                go_roundw
                case rel => exact ⟨k + 1, by omega, by go_num, by rw [HST2.out, hls]; simp, by rw [HST2.out], by rw [HST2.out], R1, R3⟩
                case measure => simp [intOf]; omega
            | false =>
              cases se with
              | true =>
                go_wp2_with (first | (go_at_call 9; refine HN.mono ?_; rintro e w7 ⟨rfl, rfl⟩) | (at_mapUpdate; refine wpList_mapUpdate_own _ rfl _ _ _ 37 rfl 9 4 K9 Try.underlying37 _ w6.heap.size k D rfl hD (by unfold maxLen; omega) _ _ (kl s) rfl rfl HKY.out (.lit (.bool true)) [] (plainElem_bool Try.underlying4 true) ?_; intro wn hown1 hgrow1))
                have R1 : Hid (Has wn w6.heap.size (k + 1) (nk (ks.take (k + 1)))) := by rw [HNK.out]; exact has_put hD.isMap hown1 hS mem_snoc
                have R3 : Below w6.heap.size w6 wn := hnx.grown hgrow1 hnx.size (fun q hq => by cases hq; exact Nat.le_refl _)
                clear hown1 hgrow1 hD hS
                go_wp2
                go_roundw
                case rel => exact ⟨k + 1, by omega, by go_num, by rw [HST2.out, hls]; simp, by rw [HST2.out], by rw [HST2.out], R1, R3⟩
                case measure => simp [intOf]; omega
              | false =>
                go_wp2_with (first | (go_at_call 9; refine HN.mono ?_; rintro e w7 ⟨rfl, rfl⟩) | (at_mapUpdate; refine wpList_mapUpdate_own _ rfl _ _ _ 37 rfl 9 4 K9 Try.underlying37 _ w6.heap.size k D rfl hD (by unfold maxLen; omega) _ _ (kl s) rfl rfl HKY.out (.lit (.bool true)) [] (plainElem_bool Try.underlying4 true) ?_; intro wn hown1 hgrow1))
                have R1 : Hid (Has wn w6.heap.size (k + 1) (nk (ks.take (k + 1)))) := by rw [HNK.out]; exact has_put hD.isMap hown1 hS mem_snoc
                have R3 : Below w6.heap.size w6 wn := hnx.grown hgrow1 hnx.size (fun q hq => by cases hq; exact Nat.le_refl _)
                clear hown1 hgrow1 hD hS
                go_wp2
                go_roundw
                case rel => exact ⟨k + 1, by omega, by go_num, by rw [HST2.out, hls]; simp, by rw [HST2.out], by rw [HST2.out], R1, R3⟩
                case measure => simp [intOf]; omega
        · obtain rfl : k = j := by omega
          have HT : Hid (ks.take k = ks) := List.take_of_length_le (by rw [HP6.out.size]; exact Nat.le_refl _)
          have HAS : Hid ((st (ks.take k)).1 = true → Adj (fun a b => less a b = true) (sig ks)) := by rw [HT.out]; exact asc ks
          have HAN : Hid (Adj (· ≠ ·) (sig ks)) := sig_ne ks
          have HNM : Hid (Has wr w6.heap.size k (nk ks)) := by have h := hhas.out; rw [HT.out] at h; exact h
          clear hhas HT
          generalize st (ks.take k) = q at *
          obtain ⟨so, se, pv⟩ := q
          obtain ⟨w7, hw7⟩ : ∃ w7, w7 = wr := ⟨wr, rfl⟩
          subst hw7
          have HS7 : Hid (Ss w7 w7.heap.size a2 l2 c2 (sig ks)) := HS2.out.on hnx
          have HP7 : Hid (Pr w7 w7.heap.size (some ⟨g, 0, none⟩) k k ks vs) := (HP6.out.later hnx).wider hsz
          have HB7 : Hid (Below w.heap.size w w7) := HBw.out.trans (hnx.mono HBw.out.size)
          have HL0 : Hid (Has (w7.alloc (.map #[] 0)) w7.heap.size 0 ((sig ks).take 0)) := by rw [List.take_zero]; exact has_made w7
          have hb0 : Below w7.heap.size w7 (w7.alloc (.map #[] 0)) := (Below.refl _ _).alloc (Nat.le_refl _) _
          have HKS : Hid (∀ x ∈ ks, x.size ≤ maxLen) := size_mem hks HS.out
          clear HS2 HP6 HBw hnx HS
          go_wp2
          go_loopw [19] (fun i wr => ∃ t : Nat, t ≤ l2 ∧ i = .int .i64 t ∧ Hid (Has wr w7.heap.size t ((sig ks).take t)) ∧ Below w7.heap.size w7 wr) (fun i _ => l2 - (intOf i).toNat)
          case atStart => exact ⟨0, Nat.zero_le _, rfl, HL0, hb0⟩
          case round =>
            obtain ⟨t, ht, rfl, hhas, hny⟩ := hrel
            clear HL0 hb0
            have hsy := hny.size
            by_cases hlt2 : t < l2
            · obtain ⟨b, off, rfl, hb, hc⟩ := HS7.out.cells (by omega)
              have hcs : wr.cell? ⟨b, off + t, none⟩ = some (.string ((sig ks)[t]?.getD E0)) := (hny.cell (p := ⟨b, off + t, none⟩) hb).trans (hc t hlt2)
              have hmem : (sig ks)[t]?.getD E0 ∈ sig ks := getD_mem (by rw [HS7.out.size]; exact hlt2)
              have HM := sig_mem.1 hmem
              have HZ := HKS.out _ HM.1
              have HN := names_any ((sig ks)[t]?.getD E0) wr HZ
              rw [HM.2] at HN
              have hlook := (HNM.out.kept hny).look (mem_nk HM.1 HM.2) HZ
              have HKY : Hid (keyOf Try.prog 9 (.string ((sig ks)[t]?.getD E0)) = some (kl ((sig ks)[t]?.getD E0))) := Go.WideMaps.keyOf_string_mk Try.underlying9 HZ
              have HTK : Hid ((sig ks).take (t + 1) = (sig ks).take t ++ [(sig ks)[t]?.getD E0]) := take_succ0 _ t (by rw [HS7.out.size]; exact hlt2)
              have hki : (t : Int) < (l2 : Int) := by omega
              obtain ⟨D, hD, hSS⟩ := hhas.out
              clear hhas hmem HM HZ
              rcases Nat.eq_zero_or_pos t with h0 | h0
              · subst h0
                rw [Nat.add_zero] at hcs
                have hk0 : (0 : Int) < (l2 : Int) := by omega
                clear hc hki
                generalize (sig ks)[0]?.getD E0 = s at *
                cases so with
                | true =>
                  go_wp2_with (first | (go_at_call 9; refine HN.mono ?_; rintro e w8 ⟨rfl, rfl⟩) | (at_mapUpdate; refine wpList_mapUpdate_own _ rfl _ _ _ 37 rfl 9 4 K9 Try.underlying37 _ w7.heap.size 0 D rfl hD (by unfold maxLen; omega) _ _ (kl s) rfl rfl HKY.out (.lit (.bool true)) [] (plainElem_bool Try.underlying4 true) ?_; intro wn hown1 hgrow1))
                  have R1 : Hid (Has wn w7.heap.size (0 + 1) ((sig ks).take (0 + 1))) := by rw [HTK.out]; exact has_put hD.isMap hown1 hSS mem_snoc'
                  have R3 : Below w7.heap.size w7 wn := hny.grown hgrow1 hny.size (fun q hq => by cases hq; exact Nat.le_refl _)
                  clear hown1 hgrow1 hD hSS
                  go_wp2
                  go_roundw
                  case rel => exact ⟨0 + 1, by omega, by go_num, R1, R3⟩
                  case measure => simp [intOf]; omega
                | false =>
                  go_wp2_with (first | (go_at_call 9; refine HN.mono ?_; rintro e w8 ⟨rfl, rfl⟩) | (at_mapUpdate; refine wpList_mapUpdate_own _ rfl _ _ _ 37 rfl 9 4 K9 Try.underlying37 _ w7.heap.size 0 D rfl hD (by unfold maxLen; omega) _ _ (kl s) rfl rfl HKY.out (.lit (.bool true)) [] (plainElem_bool Try.underlying4 true) ?_; intro wn hown1 hgrow1))
                  have R1 : Hid (Has wn w7.heap.size (0 + 1) ((sig ks).take (0 + 1))) := by rw [HTK.out]; exact has_put hD.isMap hown1 hSS mem_snoc'
                  have R3 : Below w7.heap.size w7 wn := hny.grown hgrow1 hny.size (fun q hq => by cases hq; exact Nat.le_refl _)
                  clear hown1 hgrow1 hD hSS
                  go_wp2
                  go_roundw
                  case rel => exact ⟨0 + 1, by omega, by go_num, R1, R3⟩
                  case measure => simp [intOf]; omega
              · obtain ⟨t', rfl⟩ : ∃ t', t = t' + 1 := ⟨t - 1, by omega⟩
                have hcp : wr.cell? ⟨b, off + t', none⟩ = some (.string ((sig ks)[t']?.getD E0)) := (hny.cell (p := ⟨b, off + t', none⟩) hb).trans (hc t' (by omega))
                have hne := toList_ne (HAN.out t' (by rw [HS7.out.size]; exact hlt2))
                have hne2 : (((sig ks)[t']?.getD E0).toList == ((sig ks)[t' + 1]?.getD E0).toList) = false := by simpa using hne
                have hle : so = true → Op.bytesLess ((sig ks)[t']?.getD E0).toList ((sig ks)[t' + 1]?.getD E0).toList = true := fun h => HAS.out h t' (by rw [HS7.out.size]; exact hlt2)
                have hwm : IntKind.i64.wrap (t' : Int) = (t' : Int) := wrap_small _ (by omega) (by omega)
                have hg1 : decide ((0 : Int) < (t' : Int) + 1) = true := by rw [decide_eq_true_eq]; omega
                clear hc hne
                generalize (sig ks)[t' + 1]?.getD E0 = s at *
                generalize (sig ks)[t']?.getD E0 = p at *
                cases so with
                | true =>
                  have hl1 := hle rfl
                  clear hle
                  go_wp2_with (first | (go_at_call 9; refine HN.mono ?_; rintro e w8 ⟨rfl, rfl⟩) | (at_mapUpdate; refine wpList_mapUpdate_own _ rfl _ _ _ 37 rfl 9 4 K9 Try.underlying37 _ w7.heap.size (t' + 1) D rfl hD (by unfold maxLen; omega) _ _ (kl s) rfl rfl HKY.out (.lit (.bool true)) [] (plainElem_bool Try.underlying4 true) ?_; intro wn hown1 hgrow1))
                  have R1 : Hid (Has wn w7.heap.size ((t' + 1) + 1) ((sig ks).take ((t' + 1) + 1))) := by rw [HTK.out]; exact has_put hD.isMap hown1 hSS mem_snoc'
                  have R3 : Below w7.heap.size w7 wn := hny.grown hgrow1 hny.size (fun q hq => by cases hq; exact Nat.le_refl _)
                  clear hown1 hgrow1 hD hSS
                  go_wp2
                  go_roundw
                  case rel => exact ⟨(t' + 1) + 1, by omega, by go_num, R1, R3⟩
                  case measure => simp [intOf]; omega
                | false =>
                  clear hle
                  go_wp2_with (first | (go_at_call 9; refine HN.mono ?_; rintro e w8 ⟨rfl, rfl⟩) | (at_mapUpdate; refine wpList_mapUpdate_own _ rfl _ _ _ 37 rfl 9 4 K9 Try.underlying37 _ w7.heap.size (t' + 1) D rfl hD (by unfold maxLen; omega) _ _ (kl s) rfl rfl HKY.out (.lit (.bool true)) [] (plainElem_bool Try.underlying4 true) ?_; intro wn hown1 hgrow1))
                  have R1 : Hid (Has wn w7.heap.size ((t' + 1) + 1) ((sig ks).take ((t' + 1) + 1))) := by rw [HTK.out]; exact has_put hD.isMap hown1 hSS mem_snoc'
                  have R3 : Below w7.heap.size w7 wn := hny.grown hgrow1 hny.size (fun q hq => by cases hq; exact Nat.le_refl _)
                  clear hown1 hgrow1 hD hSS
                  go_wp2
                  go_roundw
                  case rel => exact ⟨(t' + 1) + 1, by omega, by go_num, R1, R3⟩
                  case measure => simp [intOf]; omega
            · obtain rfl : t = l2 := by omega
              have HLS : Hid (Has wr w7.heap.size t (sig ks)) := by have h := hhas.out; rw [List.take_of_length_le (by rw [HS7.out.size]; exact Nat.le_refl _)] at h; exact h
              obtain ⟨w8, hw8⟩ : ∃ w8, w8 = wr := ⟨wr, rfl⟩
              subst hw8
              have HP8 : Hid (Pr w8 w8.heap.size (some ⟨g, 0, none⟩) k k ks vs) := (HP7.out.later hny).wider hsy
              have HB8 : Hid (Below w.heap.size w w8) := HB7.out.trans (hny.mono HB7.out.size)
              clear hhas HP7 HB7 HS7 hny HNM HAS HAN
              go_wp2
              go_loopw [21] (fun i wr => ∃ r : Nat, r ≤ k ∧ i = .int .i64 r ∧ w8 = wr) (fun i _ => k - (intOf i).toNat)
              case atStart => exact ⟨0, Nat.zero_le _, rfl, rfl⟩
              case round =>
                obtain ⟨r, hrk, rfl, rfl⟩ := hrel
                by_cases hlt3 : r < k
                · obtain ⟨b, off, hab, hb, hc⟩ := HP8.out.cells (by omega)
                  simp only [Option.some.injEq, Addr.mk.injEq, and_true] at hab
                  obtain ⟨rfl, rfl⟩ := hab
                  have hc1 := (hc r hlt3).1
                  rw [Nat.zero_add] at hc1
                  have hmem : ks[r]?.getD E0 ∈ ks := getD_mem (by rw [HP8.out.size]; exact hlt3)
                  have HZ := HKS.out _ hmem
                  have HN := names_any (ks[r]?.getD E0) w8 HZ
                  have HLK : Hid (names (ks[r]?.getD E0) = false → (Instr.lookup 37 (.map (some w7.heap.size)) (.string (ks[r]?.getD E0)) false).run Try.prog w8 = .ok (.bool true) w8) := fun h => HLS.out.look (sig_mem.2 ⟨hmem, h⟩) HZ
                  have hki : (r : Int) < (k : Int) := by omega
                  clear hc hmem HZ
                  generalize ks[r]?.getD E0 = s at *
                  cases hnm : names s with
                  | true =>
                    rw [hnm] at HN
                    go_wp2_with (go_at_call 9; refine HN.mono ?_; rintro e w9 ⟨rfl, rfl⟩)
                    go_roundw
                    case rel => exact ⟨r + 1, by omega, by go_num, by trivial⟩
                    case measure => simp [intOf]; omega
                  | false =>
                    have hlook := HLK.out hnm
                    rw [hnm] at HN
                    go_wp2_with (go_at_call 9; refine HN.mono ?_; rintro e w9 ⟨rfl, rfl⟩)
                    go_roundw
                    case rel => exact ⟨r + 1, by omega, by go_num, by trivial⟩
                    case measure => simp [intOf]; omega
                · obtain rfl : r = k := by omega
                  go_wp2
                  go_ret
                  exact ⟨rfl, HB8.out⟩

end Go.Proofs.Qxb6629191a
