/-
  Seat b6629084a: 'escape.Append(dst, b)': what dst owns is followed by the text of b.
-/
import Derived.Test.Qxb6629084aBase
import Derived.Deep.RegionLaw
namespace Go.Proofs.Qxb6629084a
open Go.RowKit Esc

/-- THE CALL's OWN SLICE v HOLDS THE BYTES xs, in blocks from B on. -/
def Own (w : World) (B : Nat) (v : Value) (xs : List Int) : Prop := w.ownsRow B 5 1 v xs.length (xs.map (Value.int .u8))

/-- append onto a row of the call's own, as one step of a region that draws. -/
theorem step_append_own {P : Program} {ops : Array Oper} {o : Oper} {a : Act} {w : World} {K : Act → World → Prop} {Q : Exit → Act → World → Prop} {E : Prop}
    (hg : o.guard = none) (s x : Operand) (t : TypeId) (ho : o.op = .call { callee := .builtin .append, args := #[s, x], argTypes := #[t, t] })
    (base : Nat) (e : TypeId) (i : TypeInfo) (z : Value) (size bytes : Nat) (ht : P.underlying t = some (.slice e)) (hi : P.info? e = some i) (hz : i.zero = some z)
    (hsize : i.size = size) (hby : i.bytes = bytes) (hzs : z.cells.size = size) (hsz : 0 < size)
    (v : Value) (n : Nat) (xs : List Value) (hs : a.eval s = v) (hown : w.ownsRow base e size v n xs)
    (ad : Addr) (m c : Nat) (news : List Value) (hx : a.eval x = .slice (some ad) m c) (hl : news.length = m * size) (hnews : ∀ j u, news[j]? = some u → w.cell? (ad.add j) = some u) (h1 : ∀ u ∈ news, u.oneCell' = true)
    (h63 : n + m ≤ maxLen) (hbytes : (n + m) * bytes ≤ 140737488355328) (hbase : base ≤ w.heap.size)
    (h : ∀ v' w', w'.ownsRow base e size v' (n + m) (xs ++ news) → w.grownBy w' v.ownBlock → (v' = .slice none 0 0 ↔ v = .slice none 0 0 ∧ m = 0) → K (a.put o.dst v') w') :
    if Region.wanted o (yielded ops a.tmps) = true then Oper.wp P o a w K Q else E := by
  have hw : Region.wanted o (yielded ops a.tmps) = true := by simp [Region.wanted, hg]
  rw [if_pos hw]
  exact wp_append_own w s x t ho base e i z size bytes ht hi hz hsize hby hzs hsz v n xs hs hown ad m c news hx hl hnews h1 h63 hbytes hbase h

theorem cells_new (w : World) (L : List Value) (t : TypeId) : ∀ j u, L[j]? = some u → (w.alloc (.cells L.toArray t)).cell? ((⟨w.heap.size, 0, none⟩ : Addr).add j) = some u := by
  intro j u hj
  rw [Addr.add_lit, World.cell?_alloc_at _ _ _ _ rfl]
  simpa using hj

/-- the table of digits, looked up -/
theorem hex_at (d : Int) (h0 : 0 ≤ d) (h1 : d < 16) (h : d.toNat < (⟨#[48, 49, 50, 51, 52, 53, 54, 55, 56, 57, 97, 98, 99, 100, 101, 102]⟩ : ByteArray).size) :
    ((((⟨#[48, 49, 50, 51, 52, 53, 54, 55, 56, 57, 97, 98, 99, 100, 101, 102]⟩ : ByteArray)[d.toNat]'h).toNat : Nat) : Int) = hexd d := by
  obtain ⟨n, rfl⟩ := Int.eq_ofNat_of_zero_le h0
  have hn : n < 16 := by omega
  match n, hn with
  | 0, _ => rfl
  | 1, _ => rfl
  | 2, _ => rfl
  | 3, _ => rfl
  | 4, _ => rfl
  | 5, _ => rfl
  | 6, _ => rfl
  | 7, _ => rfl
  | 8, _ => rfl
  | 9, _ => rfl
  | 10, _ => rfl
  | 11, _ => rfl
  | 12, _ => rfl
  | 13, _ => rfl
  | 14, _ => rfl
  | 15, _ => rfl

theorem rel_four {B k : Nat} {xs zs X : List Int} {w wr w1 : World} {u v' : Value} {o : Obj} (hnx : Below B w wr) (hB : B ≤ wr.heap.size) (hown : Own wr B u X)
    (HX : Hid (X = xs ++ enc (zs.take k))) (HE : Hid (enc (zs.take (k + 1)) = enc (zs.take k) ++ enc1 (zs[k]?.getD 0))) (HP : Hid (plainB (zs[k]?.getD 0) = false))
    (hown1 : w1.ownsRow B 5 1 v' (X.length + 4) (X.map (Value.int .u8) ++ [.int .u8 92, .int .u8 120, .int .u8 (hexd (zs[k]?.getD 0 / 16)), .int .u8 (hexd (zs[k]?.getD 0 % 16))]))
    (hgrow : (wr.alloc o).drew.grownBy w1 u.ownBlock) : Own w1 B v' (xs ++ enc (zs.take (k + 1))) ∧ Below B w w1 := by
  refine ⟨?_, (hnx.alloc hB _).drew.grown hgrow (by simp; omega) (fun j hj => (World.ownsRow.lt hown j hj).1)⟩
  rw [HE.out, enc1_not HP.out, ← List.append_assoc, ← HX.out]
  simpa [Own] using hown1

set_option maxHeartbeats 1000000 in
theorem append_any (v : Value) (xs : List Int) (a : Option Addr) (len cap : Nat) (zs : List Int) (B : Nat) (w : World)
    (hown : Own w B v xs) (hrd : Rd w B a len cap zs) (hB : B ≤ w.heap.size) (hx : xs.length ≤ 1099511627776) (hm : len ≤ 1099511627776) :
    Calls Try.prog 6 #[v, .slice a len cap] w fun e w' => ∃ v', e = .returned v' ∧ Own w' B v' (xs ++ enc zs) ∧ Below B w w' := by
  obtain ⟨i0, hi, hz0, hz1, hz2⟩ := info_parts Try.info5
  go_enter Try.func6, Try.ntmps6
  go_wp2
  go_loopw [0, 9] (fun u i wr => ∃ k : Nat, k ≤ len ∧ i = .int .i64 k ∧ Own wr B u (xs ++ enc (zs.take k)) ∧ Below B w wr) (fun _ i _ => len - (intOf i).toNat)
  case atStart => exact ⟨0, Nat.zero_le _, rfl, by simpa [enc] using hown, Below.refl _ _⟩
  case round =>
    obtain ⟨k, hk, rfl, hown', hnx⟩ := hrel
    by_cases hlt : k < len
    · obtain ⟨b, off, rfl, hbB, hc⟩ := hrd.cells (by omega)
      have hcx : wr.cell? ⟨b, off + k, none⟩ = some (.int .u8 (zs[k]?.getD 0)) := (hnx.cell (p := ⟨b, off + k, none⟩) hbB).trans (hc k hlt)
      clear hc
      have hs := hrd.size
      have hle := enc_le (zs.take k)
      have htl : (zs.take k).length ≤ k := List.length_take_le _ _
      have hes := enc_step zs k (by omega)
      have hsz := hnx.size
      have HL : Hid ((xs ++ enc (zs.take k)).length = xs.length + (enc (zs.take k)).length) := by simp [Hid]
      obtain ⟨X, hX⟩ : ∃ X, X = xs ++ enc (zs.take k) := ⟨_, rfl⟩
      rw [← hX] at hown' HL
      have HX : Hid (X = xs ++ enc (zs.take k)) := hX
      have HE : Hid (enc (zs.take (k + 1)) = enc (zs.take k) ++ enc1 (zs[k]?.getD 0)) := hes
      have hXl : X.length ≤ 1099511627776 + 4 * k := by have := HL.out; omega
      clear hX hes hs hle htl
      cases hp : plainB (zs[k]?.getD 0) with
      | true =>
        have HP : Hid (plainB (zs[k]?.getD 0) = true) := hp
        clear hp
        go_wp2_with (first
          | (go_at_call 11; refine (plain_yes _ _ HP.out).mono ?_; rintro e w' ⟨rfl, rfl⟩)
          | (at_builtin; refine wpList_append_own _ rfl _ _ 22 rfl B 5 i0 (.int .u8 0) 1 1 Try.underlying22 hi hz0 hz1 hz2 rfl (by decide) _ _ _ rfl (World.ownsRow.alloc hown' _) ⟨wr.heap.size, 0, none⟩ 1 1 [.int .u8 (zs[k]?.getD 0)] rfl rfl (cell_one_new _ _ _) ?c2 ?c3 ?c4 ?c5 ?_))
        case c2 => intro u hu; simp at hu; subst hu; rfl
        case c3 => unfold maxLen; omega
        case c4 => omega
        case c5 => simp; omega
        · intro v' w1 hown1 hgrow _
          have R : Own w1 B v' (xs ++ enc (zs.take (k + 1))) := by
            rw [HE.out, enc1_plain HP.out, ← List.append_assoc, ← HX.out]
            simpa [Own] using hown1
          have hb1 : Below B w w1 := (hnx.alloc (by omega) _).grown hgrow (by simp; omega) (fun j hj => (World.ownsRow.lt hown' j hj).1)
          clear hown1 hgrow hown' hcx
          go_wp2
          go_roundw
          case rel => exact ⟨k + 1, by omega, by go_num, R, hb1⟩
          case measure => simp [intOf]; omega
      | false =>
        have HP : Hid (plainB (zs[k]?.getD 0) = false) := hp
        clear hp
        go_wp2_with (first
          | (go_at_call 11; refine (plain_no _ _ HP.out).mono ?_; rintro e w' ⟨rfl, rfl⟩))
        have hb := bytes_at hrd.bytes k
        have hd1 : 0 ≤ zs[k]?.getD 0 / 16 := by omega
        have hd2 : zs[k]?.getD 0 / 16 < 16 := by omega
        have ha : bits BinOp.and IntKind.u8 (zs[k]?.getD 0) 15 = zs[k]?.getD 0 % 16 := u8_and15 _ hb.1 (by omega)
        have hd3 : 0 ≤ zs[k]?.getD 0 % 16 := by omega
        have hd4 : zs[k]?.getD 0 % 16 < 16 := by omega
        have hx1 := hex_at (zs[k]?.getD 0 / 16) hd1 hd2
        have hx2 := hex_at (zs[k]?.getD 0 % 16) hd3 hd4
        go_region_law (refine step_append_own rfl (.tmp 19) (.tmp 26) 22 rfl B 5 i0 (.int .u8 0) 1 1 Try.underlying22 hi hz0 hz1 hz2 rfl (by decide) _ _ _ rfl (World.ownsRow.drew (World.ownsRow.alloc hown' _)) ⟨wr.heap.size, 0, none⟩ 4 4 [.int .u8 92, .int .u8 120, .int .u8 (hexd (zs[k]?.getD 0 / 16)), .int .u8 (hexd (zs[k]?.getD 0 % 16))] rfl rfl (by exact cells_new _ _ _) (by simp [Value.oneCell']) (by unfold maxLen; omega) (by omega) (by simp; omega) ?_; intro v' w1 hown1 hgrow _; have R := rel_four hnx (by omega) hown' HX HE HP hown1 hgrow; clear hown1 hgrow)
        all_goals
          clear hown' hcx hx1 hx2 ha
          go_wp2
          go_roundw
          case rel => exact ⟨k + 1, by omega, by go_num, by assumption⟩
          case measure => simp [intOf]; omega
    · go_wp2
      go_ret
      have : k = len := by omega
      subst this
      exact ⟨_, rfl, by rw [List.take_of_length_le (by rw [hrd.size]; omega)] at hown'; exact hown', hnx⟩

end Go.Proofs.Qxb6629084a
