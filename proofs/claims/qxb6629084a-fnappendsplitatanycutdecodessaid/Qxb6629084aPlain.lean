/-
  THE PLAIN LAWS of seat b6629084a: what 'escape.Append' writes of a list of bytes, and that this code can be cut and read back. No Go in sight.
-/
namespace Go.Proofs.Qxb6629084a.Esc

/-- does the byte stand for itself? -/
def plainB (c : Int) : Bool := decide (33 ≤ c) && (decide (c ≤ 126) && (c != 92))
/-- the lowercase hex digit -/
def hexd (d : Int) : Int := if d < 10 then 48 + d else 87 + d
/-- what is written of one byte -/
def enc1 (c : Int) : List Int := if plainB c then [c] else [92, 120, hexd (c / 16), hexd (c % 16)]
/-- what is written of a list of bytes -/
def enc : List Int → List Int
  | [] => []
  | c :: r => enc1 c ++ enc r
/-- each is a byte -/
def Bytes (zs : List Int) : Prop := ∀ x ∈ zs, 0 ≤ x ∧ x ≤ 255

theorem plainB_true {c : Int} (h : plainB c = true) : 33 ≤ c ∧ c ≤ 126 ∧ c ≠ 92 := by
  simp [plainB] at h; omega
theorem plainB_false {c : Int} (h : plainB c = false) : c < 33 ∨ 126 < c ∨ c = 92 := by
  rcases Int.lt_or_le c 33 with h1 | h1
  · exact .inl h1
  · rcases Int.lt_or_le 126 c with h2 | h2
    · exact .inr (.inl h2)
    · refine .inr (.inr ?_)
      by_cases h3 : c = 92
      · exact h3
      · exfalso
        have : plainB c = true := by simp [plainB, h1, h2, h3]
        rw [h] at this; cases this

theorem enc1_plain {c : Int} (h : plainB c = true) : enc1 c = [c] := by simp [enc1, h]
theorem enc1_not {c : Int} (h : plainB c = false) : enc1 c = [92, 120, hexd (c / 16), hexd (c % 16)] := by simp [enc1, h]
theorem enc1_len (c : Int) : 1 ≤ (enc1 c).length ∧ (enc1 c).length ≤ 4 := by
  unfold enc1; split <;> simp

theorem hexd_inj {a b : Int} (ha : 0 ≤ a ∧ a < 16) (hb : 0 ≤ b ∧ b < 16) (h : hexd a = hexd b) : a = b := by
  unfold hexd at h; split at h <;> split at h <;> omega
theorem hexd_lo {d : Int} (h : d < 10) : hexd d = 48 + d := by simp [hexd, h]
theorem hexd_hi {d : Int} (h : 10 ≤ d) : hexd d = 87 + d := by rw [hexd, if_neg (by omega)]
theorem hexd_range {d : Int} (h0 : 0 ≤ d) (h : d < 16) : (48 ≤ hexd d ∧ hexd d ≤ 57 ∧ hexd d - 48 = d) ∨ (97 ≤ hexd d ∧ hexd d ≤ 102 ∧ hexd d - 97 + 10 = d) := by
  unfold hexd; split <;> omega

theorem enc_append (a b : List Int) : enc (a ++ b) = enc a ++ enc b := by
  induction a with
  | nil => rfl
  | cons x r ih => simp [enc, ih, List.append_assoc]

theorem enc_le (zs : List Int) : (enc zs).length ≤ 4 * zs.length := by
  induction zs with
  | nil => simp [enc]
  | cons x r ih => have := enc1_len x; simp [enc]; omega

theorem enc_ge (zs : List Int) : zs.length ≤ (enc zs).length := by
  induction zs with
  | nil => simp [enc]
  | cons x r ih => have := enc1_len x; simp [enc]; omega

theorem take_snoc (zs : List Int) (k : Nat) (hk : k < zs.length) : zs.take (k + 1) = zs.take k ++ [zs[k]?.getD 0] := by
  rw [List.take_add_one, List.getElem?_eq_getElem hk]; rfl

theorem enc_step (zs : List Int) (k : Nat) (hk : k < zs.length) : enc (zs.take (k + 1)) = enc (zs.take k) ++ enc1 (zs[k]?.getD 0) := by
  rw [take_snoc zs k hk, enc_append]; simp [enc]

/-- the text around byte j -/
theorem enc_at (zs : List Int) (j : Nat) (hj : j < zs.length) : enc zs = enc (zs.take j) ++ (enc1 (zs[j]?.getD 0) ++ enc (zs.drop (j + 1))) := by
  have h : zs = zs.take (j + 1) ++ zs.drop (j + 1) := (List.take_append_drop _ _).symm
  conv => lhs; rw [h]
  rw [enc_append, enc_step zs j hj, List.append_assoc]

/-- the text's next byte where byte j stands for itself -/
theorem enc_at_plain (zs : List Int) (j : Nat) (hj : j < zs.length) (hp : plainB (zs[j]?.getD 0) = true) :
    (enc (zs.take j)).length + 1 ≤ (enc zs).length ∧ (enc zs)[(enc (zs.take j)).length]?.getD 0 = zs[j]?.getD 0 := by
  have h := enc_at zs j hj
  rw [enc1_plain hp] at h
  refine ⟨by have := congrArg List.length h; simp at this; omega, ?_⟩
  rw [h]
  simp

/-- the text's next four bytes where byte j does not -/
theorem enc_at_not (zs : List Int) (j : Nat) (hj : j < zs.length) (hp : plainB (zs[j]?.getD 0) = false) :
    (enc (zs.take j)).length + 4 ≤ (enc zs).length ∧ (enc zs)[(enc (zs.take j)).length]?.getD 0 = 92 ∧ (enc zs)[(enc (zs.take j)).length + 1]?.getD 0 = 120 ∧
    (enc zs)[(enc (zs.take j)).length + 2]?.getD 0 = hexd (zs[j]?.getD 0 / 16) ∧ (enc zs)[(enc (zs.take j)).length + 3]?.getD 0 = hexd (zs[j]?.getD 0 % 16) := by
  have h := enc_at zs j hj
  rw [enc1_not hp] at h
  rw [h]
  refine ⟨by simp, ?_, ?_, ?_, ?_⟩ <;> simp

theorem bytes_at {zs : List Int} (hz : Bytes zs) (j : Nat) : 0 ≤ zs[j]?.getD 0 ∧ zs[j]?.getD 0 ≤ 255 := by
  by_cases hj : j < zs.length
  · rw [List.getElem?_eq_getElem hj]; exact hz _ (List.getElem_mem hj)
  · rw [List.getElem?_eq_none (by omega)]; simp

theorem bytes_enc1 {c : Int} (h : 0 ≤ c ∧ c ≤ 255) : Bytes (enc1 c) := by
  intro x hx
  cases hp : plainB c with
  | true => rw [enc1_plain hp] at hx; simp at hx; subst hx; exact h
  | false =>
    rw [enc1_not hp] at hx
    have r1 := hexd_range (d := c / 16) (by omega) (by omega)
    have r2 := hexd_range (d := c % 16) (by omega) (by omega)
    simp at hx
    rcases hx with h | h | h | h <;> omega

theorem bytes_enc {zs : List Int} (hz : Bytes zs) : Bytes (enc zs) := by
  induction zs with
  | nil => intro x hx; simp [enc] at hx
  | cons c r ih =>
    intro x hx
    simp [enc] at hx
    rcases hx with h | h
    · exact bytes_enc1 (hz c (by simp)) x h
    · exact ih (fun y hy => hz y (by simp [hy])) x h

theorem enc_inj : ∀ {a b : List Int}, Bytes a → Bytes b → enc a = enc b → a = b
  | [], [], _, _, _ => rfl
  | [], y :: t, _, _, h => by
    have := enc1_len y
    have h2 := congrArg List.length h
    simp only [enc, List.length_append, List.length_nil] at h2; omega
  | x :: s, [], _, _, h => by
    have := enc1_len x
    have h2 := congrArg List.length h
    simp only [enc, List.length_append, List.length_nil] at h2; omega
  | x :: s, y :: t, ha, hb, h => by
    have hx := ha x (by simp)
    have hy := hb y (by simp)
    have hs : Bytes s := fun z hz => ha z (by simp [hz])
    have ht : Bytes t := fun z hz => hb z (by simp [hz])
    simp only [enc] at h
    cases px : plainB x with
    | true =>
      have qx := plainB_true px
      cases py : plainB y with
      | true =>
        rw [enc1_plain px, enc1_plain py] at h
        simp at h
        rw [h.1, enc_inj hs ht h.2]
      | false =>
        rw [enc1_plain px, enc1_not py] at h
        simp at h
        omega
    | false =>
      cases py : plainB y with
      | true =>
        have qy := plainB_true py
        rw [enc1_not px, enc1_plain py] at h
        simp at h
        omega
      | false =>
        rw [enc1_not px, enc1_not py] at h
        simp at h
        obtain ⟨h1, h2, h3⟩ := h
        have e1 := hexd_inj (a := x / 16) (b := y / 16) (by omega) (by omega) h1
        have e2 := hexd_inj (a := x % 16) (b := y % 16) (by omega) (by omega) h2
        rw [enc_inj hs ht h3, show x = y by omega]

end Go.Proofs.Qxb6629084a.Esc
