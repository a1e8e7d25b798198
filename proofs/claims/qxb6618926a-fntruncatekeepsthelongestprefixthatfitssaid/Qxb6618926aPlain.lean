/-
  The plain mathematics of the two laws: no Go in sight. 'enc': the UTF-8 text of a row of runes. 'trunc': what Truncate keeps, and whether it cut. 'fits': every rune of the row was let in.
-/
import Derived.Lib.RuneBytes
import Derived.Lib.Small
namespace Go.Proofs.Qxb6618926a
open Go

/-- The UTF-8 text of a row of runes. -/
def enc (rs : List Int) : List UInt8 := rs.flatMap Lib.encodeRune

/-- What Truncate keeps of a row of runes when it already holds 'acc', and whether it cut. -/
def trunc : List UInt8 → List Int → List UInt8 × Bool
  | acc, [] => (acc, false)
  | acc, r :: rs => if 200 < (acc.length : Int) + Lib.runeLen r then (acc, true) else trunc (acc ++ Lib.encodeRune r) rs

/-- Every rune of the row is let in. -/
def fits : List UInt8 → List Int → Bool
  | _, [] => true
  | acc, r :: rs => decide ((acc.length : Int) + Lib.runeLen r ≤ 200) && fits (acc ++ Lib.encodeRune r) rs

theorem enc_nil : enc [] = [] := rfl
theorem enc_cons (r : Int) (rs : List Int) : enc (r :: rs) = Lib.encodeRune r ++ enc rs := by simp [enc]
theorem enc_append (a b : List Int) : enc (a ++ b) = enc a ++ enc b := by simp [enc]
theorem enc_snoc (a : List Int) (x : Int) : enc (a ++ [x]) = enc a ++ Lib.encodeRune x := by simp [enc]

theorem encLen_le (x : Int) : 1 ≤ (Lib.encodeRune x).length ∧ (Lib.encodeRune x).length ≤ 4 := by
  have := Lib.encodeRuneZ_length x
  simpa [Lib.encodeRune] using this

/-- RuneLen is the number of bytes that are written, or -1 (and three are written). -/
theorem runeLen_cases (x : Int) : Lib.runeLen x = (Lib.encodeRune x).length ∨ (Lib.runeLen x = -1 ∧ (Lib.encodeRune x).length = 3) := by
  unfold Lib.runeLen
  by_cases h0 : x < 0
  · right; rw [if_pos h0]; simp [Lib.encodeRune, Lib.encodeRuneZ_bad (Or.inl h0)]
  rw [if_neg h0]
  by_cases h1 : x ≤ 0x7F
  · left; rw [if_pos h1]; simp [Lib.encodeRune, Lib.encodeRuneZ_one (by omega) h1]
  rw [if_neg h1]
  by_cases h2 : x ≤ 0x7FF
  · left; rw [if_pos h2]; simp [Lib.encodeRune, Lib.encodeRuneZ_two (by omega) h2]
  rw [if_neg h2]
  by_cases h3 : 0xD800 ≤ x ∧ x ≤ 0xDFFF
  · right; rw [if_pos h3]; simp [Lib.encodeRune, Lib.encodeRuneZ_bad (Or.inr (Or.inl h3))]
  rw [if_neg h3]
  by_cases h4 : x ≤ 0xFFFF
  · left; rw [if_pos h4]; simp [Lib.encodeRune, Lib.encodeRuneZ_three (r := x) (by omega)]
  rw [if_neg h4]
  by_cases h5 : x ≤ 0x10FFFF
  · left; rw [if_pos h5]; simp [Lib.encodeRune, Lib.encodeRuneZ_four (r := x) (by omega) h5]
  rw [if_neg h5]
  right; simp [Lib.encodeRune, Lib.encodeRuneZ_bad (r := x) (Or.inr (Or.inr (by omega)))]

theorem fits_snoc (acc : List UInt8) (pre : List Int) (x : Int) : fits acc (pre ++ [x]) = (fits acc pre && decide (((acc ++ enc pre).length : Int) + Lib.runeLen x ≤ 200)) := by
  induction pre generalizing acc with
  | nil => simp [fits, enc]
  | cons r rs ih =>
    rw [List.cons_append, fits, fits, ih, enc_cons, Bool.and_assoc]
    simp [List.append_assoc]

theorem trunc_fits (acc : List UInt8) (zs : List Int) (h : fits acc zs = true) : trunc acc zs = (acc ++ enc zs, false) := by
  induction zs generalizing acc with
  | nil => simp [trunc, enc]
  | cons r rs ih =>
    rw [fits, Bool.and_eq_true, decide_eq_true_eq] at h
    rw [trunc, if_neg (by omega), ih _ h.2, enc_cons, List.append_assoc]

theorem trunc_cut (acc : List UInt8) (ini : List Int) (x : Int) (rest : List Int) (h : fits acc ini = true) (hx : 200 < ((acc ++ enc ini).length : Int) + Lib.runeLen x) :
    trunc acc (ini ++ x :: rest) = (acc ++ enc ini, true) := by
  induction ini generalizing acc with
  | nil => simp only [enc_nil, List.append_nil] at hx; simp [trunc, enc, hx]
  | cons r rs ih =>
    rw [fits, Bool.and_eq_true, decide_eq_true_eq] at h
    rw [List.cons_append, trunc, if_neg (by omega), ih _ h.2 (by rw [enc_cons, ← List.append_assoc] at hx; exact hx), enc_cons, List.append_assoc]

/-- Either all runes are let in, or there is a first one that is not. -/
theorem fits_or_cut (acc : List UInt8) (zs : List Int) : fits acc zs = true ∨ ∃ ini x rest, zs = ini ++ x :: rest ∧ fits acc ini = true ∧ 200 < ((acc ++ enc ini).length : Int) + Lib.runeLen x := by
  induction zs generalizing acc with
  | nil => exact .inl rfl
  | cons r rs ih =>
    by_cases h : (acc.length : Int) + Lib.runeLen r ≤ 200
    · rcases ih (acc ++ Lib.encodeRune r) with h1 | ⟨ini, x, rest, rfl, h1, h2⟩
      · left; rw [fits, h1]; simp [h]
      · right; exact ⟨r :: ini, x, rest, rfl, by rw [fits, h1]; simp [h], by rw [enc_cons, ← List.append_assoc]; exact h2⟩
    · right; exact ⟨[], r, rs, rfl, rfl, by simp only [enc_nil, List.append_nil]; omega⟩

/-- What is let in takes at most 204 bytes. -/
theorem fits_length (zs : List Int) (h : fits [] zs = true) : (enc zs).length ≤ 204 := by
  rcases List.eq_nil_or_concat zs with rfl | ⟨pre, x, rfl⟩
  · simp [enc]
  · rw [List.concat_eq_append] at h ⊢
    rw [fits_snoc, Bool.and_eq_true, decide_eq_true_eq, List.nil_append] at h
    rw [enc_snoc, List.length_append]
    rcases runeLen_cases x with hx | ⟨hx, hy⟩ <;> have := encLen_le x <;> omega

/-- A row's head that is let in. -/
theorem fits_left (acc : List UInt8) (a b : List Int) (h : fits acc (a ++ b) = true) : fits acc a = true := by
  induction a generalizing acc with
  | nil => rfl
  | cons r rs ih =>
    rw [List.cons_append, fits, Bool.and_eq_true] at h
    rw [fits, h.1, ih _ h.2]
    rfl

/-! ### The first law -/

theorem law1 (rs tail : List Int) :
    (trunc [] rs).1.length ≤ 204 ∧ (trunc [] rs).1 <+: enc rs ∧
    ((trunc [] rs).2 = false → (trunc [] rs).1 = enc rs ∧ (trunc [] rs).1 <+: (trunc [] (rs ++ tail)).1) ∧
    ((trunc [] rs).2 = true → 200 < (enc rs).length ∧ 197 ≤ (trunc [] rs).1.length ∧ (trunc [] (rs ++ tail)).1 = (trunc [] rs).1 ∧ (trunc [] (rs ++ tail)).2 = true) := by
  rcases fits_or_cut [] rs with h | ⟨ini, x, rest, rfl, h, hx⟩
  · have e := trunc_fits [] rs h
    rw [List.nil_append] at e
    rw [e]
    refine ⟨fits_length rs h, List.prefix_rfl, fun _ => ⟨rfl, ?_⟩, (fun h => by cases h)⟩
    rcases fits_or_cut [] (rs ++ tail) with h2 | ⟨ini, x, rest, e2, h2, hx⟩
    · rw [trunc_fits _ _ h2, List.nil_append, enc_append]; exact List.prefix_append _ _
    · rw [e2, trunc_cut _ _ _ _ h2 hx, List.nil_append]
      -- rs is a head of ini: it was let in whole
      have hp : rs <+: ini := by
        rcases List.append_eq_append_iff.1 e2 with ⟨a, rfl, _⟩ | ⟨a, hb, e3⟩
        · exact List.prefix_append _ _
        · cases a with
          | nil => rw [List.append_nil] at hb; rw [hb]; exact List.prefix_rfl
          | cons y ys =>
            rw [List.cons_append, List.cons.injEq] at e3
            obtain ⟨rfl, _⟩ := e3
            rw [hb, show ini ++ x :: ys = (ini ++ [x]) ++ ys by simp] at h
            have h3 := fits_left [] _ _ h
            rw [fits_snoc, Bool.and_eq_true, decide_eq_true_eq] at h3
            omega
      obtain ⟨t, rfl⟩ := hp
      rw [enc_append]; exact List.prefix_append _ _
  · have e := trunc_cut [] ini x rest h hx
    rw [List.nil_append] at e hx
    have e2 : trunc [] ((ini ++ x :: rest) ++ tail) = (enc ini, true) := by
      rw [List.append_assoc, List.cons_append]
      exact trunc_cut [] ini x (rest ++ tail) h hx
    rw [e, e2]
    have hl := encLen_le x
    refine ⟨fits_length ini h, by rw [enc_append]; exact List.prefix_append _ _, (fun h => by cases h), fun _ => ⟨?_, ?_, rfl, rfl⟩⟩
    · rw [enc_append, enc_cons, List.length_append, List.length_append]
      rcases runeLen_cases x with hc | ⟨hc, hd⟩ <;> omega
    · show 197 ≤ (enc ini).length
      rcases runeLen_cases x with hc | ⟨hc, hd⟩ <;> omega

/-! ### The second law -/

theorem runeLen_valid (x : Int) (h : Lib.validRune x = true) : Lib.runeLen x = (Lib.encodeRune x).length := by
  rcases runeLen_cases x with hx | ⟨hx, _⟩
  · exact hx
  · exfalso
    simp only [Lib.validRune, decide_eq_true_eq] at h
    unfold Lib.runeLen at hx
    split at hx <;> omega

/-- A row of valid runes whose text takes at most 200 bytes is let in. -/
theorem fits_valid (acc : List UInt8) (zs : List Int) (hv : ∀ x ∈ zs, Lib.validRune x = true) (h : (acc ++ enc zs).length ≤ 200) : fits acc zs = true := by
  induction zs generalizing acc with
  | nil => rfl
  | cons r rs ih =>
    have h' := h
    rw [enc_cons, List.length_append, List.length_append] at h
    rw [fits, Bool.and_eq_true, decide_eq_true_eq, runeLen_valid r (hv r (by simp))]
    exact ⟨by omega, ih _ (fun x hx => hv x (by simp [hx])) (by rw [enc_cons, ← List.append_assoc] at h'; exact h')⟩

theorem law2 (rs : List Int) (n : Nat) (hn : n ≤ rs.length) (hv : ∀ x ∈ rs, Lib.validRune x = true) (h : (enc (rs.take n)).length ≤ 200)
    (hstop : ∀ x, rs[n]? = some x → 200 < ((enc (rs.take n)).length : Int) + Lib.runeLen x) :
    trunc [] rs = (enc (rs.take n), decide (n < rs.length)) ∧ trunc [] (rs.take n) = (enc (rs.take n), false) ∧ (n < rs.length → trunc [] (rs.take (n + 1)) = (enc (rs.take n), true)) := by
  have hf : fits [] (rs.take n) = true := fits_valid [] _ (fun x hx => hv x (List.mem_of_mem_take hx)) (by simpa using h)
  have e1 : trunc [] (rs.take n) = (enc (rs.take n), false) := by rw [trunc_fits _ _ hf, List.nil_append]
  refine ⟨?_, e1, ?_⟩
  · by_cases hlt : n < rs.length
    · have hx := hstop rs[n] (by simp [hlt])
      have e2 : trunc [] (rs.take n ++ rs[n] :: rs.drop (n + 1)) = (enc (rs.take n), true) := trunc_cut [] _ _ _ hf (by simpa using hx)
      rw [List.getElem_cons_drop, List.take_append_drop] at e2
      rw [e2]; simp [hlt]
    · have e3 : rs.take n = rs := List.take_of_length_le (by omega)
      rw [e3] at e1 ⊢
      rw [e1]; simp [hlt]
  · intro hlt
    have hx := hstop rs[n] (by simp [hlt])
    have e2 : trunc [] (rs.take n ++ rs[n] :: []) = (enc (rs.take n), true) := trunc_cut [] _ _ _ hf (by simpa using hx)
    rw [List.take_succ_eq_append_getElem hlt]
    exact e2

end Go.Proofs.Qxb6618926a
