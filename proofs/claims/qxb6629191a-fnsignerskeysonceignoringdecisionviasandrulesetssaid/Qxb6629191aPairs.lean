/-
  Seat b6629191a: a slice of steps that the call itself makes, by append.
-/
import Derived.Test.Qxb6629191aSeam
namespace Go.Proofs.Qxb6629191a
open Go.RowKit Sg

/-- the cells of a row of steps -/
def flat (ps : List (ByteArray × ByteArray)) : List Value := ps.flatMap fun p => [.string p.1, .string p.2]

theorem flat_len (ps : List (ByteArray × ByteArray)) : (flat ps).length = ps.length * 2 := by
  induction ps with
  | nil => rfl
  | cons p ps ih => simp only [flat, List.flatMap_cons, List.length_append, List.length_cons] at *; simp only [List.length_nil]; omega

theorem flat_snoc (ps : List (ByteArray × ByteArray)) (s v : ByteArray) : flat (ps ++ [(s, v)]) = flat ps ++ [.string s, .string v] := by simp [flat]

theorem flat_at (ps : List (ByteArray × ByteArray)) (i : Nat) (h : i < ps.length) : (flat ps)[i * 2]? = some (.string ((ps.map (·.1))[i]?.getD E0)) ∧ (flat ps)[i * 2 + 1]? = some (.string ((ps.map (·.2))[i]?.getD E0)) := by
  induction ps generalizing i with
  | nil => simp at h
  | cons p ps ih =>
    have e : flat (p :: ps) = .string p.1 :: .string p.2 :: flat ps := rfl
    rw [e]
    cases i with
    | zero => simp
    | succ i =>
      have h2 := ih i (by simpa using h)
      rw [show (i + 1) * 2 = i * 2 + 1 + 1 by omega, show i * 2 + 1 + 1 + 1 = i * 2 + 1 + 1 + 1 from rfl]
      simp only [List.getElem?_cons_succ, List.map_cons]
      exact h2

/-- THE CALL's OWN SLICE v HOLDS THE STEPS ps. -/
def Op2 (w : World) (B : Nat) (v : Value) (ps : List (ByteArray × ByteArray)) : Prop := w.ownsRow B 32 2 v ps.length (flat ps)

theorem cell_two_new (w : World) (x y : Value) (t : TypeId) : ∀ j u, [x, y][j]? = some u → (w.alloc (.cells #[x, y] t)).cell? ((⟨w.heap.size, 0, none⟩ : Addr).add j) = some u := by
  intro j u hj
  match j, hj with
  | 0, hj => simp at hj; subst hj; simp [Addr.add]
  | 1, hj => simp at hj; subst hj; simp [Addr.add]

theorem op2_snoc {w w1 : World} {B : Nat} {u v' : Value} {X : List (ByteArray × ByteArray)} {s v : ByteArray} {o : Obj} {w0 : World} (hnx : Below B w0 w) (hB : B ≤ w.heap.size) (hown : Op2 w B u X)
    (hown1 : w1.ownsRow B 32 2 v' (X.length + 1) (flat X ++ [.string s, .string v])) (hgrow : (w.alloc o).grownBy w1 u.ownBlock) : Op2 w1 B v' (X ++ [(s, v)]) ∧ Below B w0 w1 :=
  ⟨by unfold Op2; rw [flat_snoc, List.length_append]; exact hown1, (hnx.alloc hB _).grown hgrow (by simp; omega) (fun j hj => (World.ownsRow.lt hown j hj).1)⟩

theorem op2_pr {w : World} {B : Nat} {v : Value} {ps : List (ByteArray × ByteArray)} (h : Op2 w B v ps) : ∃ a c, v = .slice a ps.length c ∧ Pr w w.heap.size a ps.length c (ps.map (·.1)) (ps.map (·.2)) := by
  rcases h.2 with ⟨rfl, hn⟩ | ⟨g, cap, cur, rfl, hb, hg, hcap, _⟩
  · exact ⟨none, 0, by rw [hn], by simp, by simp, by omega, fun _ => rfl, fun h => by omega⟩
  · refine ⟨_, _, rfl, by simp, by simp, hcap, fun h => (by cases h), fun hl => ⟨g, 0, rfl, (Array.getElem?_eq_some_iff.1 hg).1, fun i hi => ?_⟩⟩
    rw [Nat.zero_add, h.cellAt (i * 2) (by omega), h.cellAt (i * 2 + 1) (by omega)]
    exact flat_at ps i hi

theorem zip_take_succ (ks vs : List ByteArray) (j : Nat) (h1 : j < ks.length) (h2 : j < vs.length) : (ks.zip vs).take (j + 1) = (ks.zip vs).take j ++ [(ks[j]?.getD E0, vs[j]?.getD E0)] := by
  rw [List.take_add_one, List.getElem?_eq_getElem (by rw [List.length_zip]; omega), List.getElem?_eq_getElem h1, List.getElem?_eq_getElem h2, List.getElem_zip]
  rfl

theorem zip_drop_succ (ks vs : List ByteArray) (k j : Nat) (hk : k ≤ j) (h1 : j < ks.length) (h2 : j < vs.length) : ((ks.zip vs).take (j + 1)).drop k = ((ks.zip vs).take j).drop k ++ [(ks[j]?.getD E0, vs[j]?.getD E0)] := by
  rw [zip_take_succ ks vs j h1 h2, List.drop_append_of_le_length (by rw [List.length_take, List.length_zip]; omega)]

theorem zip_fst (ks vs : List ByteArray) (h : ks.length = vs.length) : (ks.zip vs).map (·.1) = ks := by
  rw [show (fun x : ByteArray × ByteArray => x.1) = Prod.fst from rfl, List.map_fst_zip (by omega)]

theorem zip_snd (ks vs : List ByteArray) (h : ks.length = vs.length) : (ks.zip vs).map (·.2) = vs := by
  rw [show (fun x : ByteArray × ByteArray => x.2) = Prod.snd from rfl, List.map_snd_zip (by omega)]

end Go.Proofs.Qxb6629191a
