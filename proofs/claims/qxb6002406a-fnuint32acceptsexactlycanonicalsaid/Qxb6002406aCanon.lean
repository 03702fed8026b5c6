/-
  The plain law of FnUint32AcceptsExactlyCanonical: what Uint32 accepts is what EncodeUint32 writes.
-/
import Derived.Test.Qxb6002406aRound
namespace Go.Proofs.Qxb6002406a

/-- How many leading numbers are 0. -/
def lz : List Int → Nat
  | [] => 0
  | x :: xs => if x = 0 then lz xs + 1 else 0

theorem lz_le (bs : List Int) : lz bs ≤ bs.length := by
  induction bs with
  | nil => simp [lz]
  | cons x xs ih => simp only [lz, List.length_cons]; split <;> omega

theorem lz_zero (bs : List Int) (j : Nat) (h : j < lz bs) : bs.getD j 0 = 0 := by
  induction bs generalizing j with
  | nil => simp [lz] at h
  | cons x xs ih =>
    simp only [lz] at h
    split at h
    · cases j with
      | zero => simpa
      | succ j => simpa using ih j (by omega)
    · omega

theorem lz_stop (bs : List Int) (h : lz bs < bs.length) : ¬ bs.getD (lz bs) 0 = 0 := by
  induction bs with
  | nil => simp at h
  | cons x xs ih =>
    simp only [lz] at h ⊢
    split
    · rename_i hx
      rw [if_pos hx] at h
      simpa using ih (by simpa using h)
    · simpa

theorem byte_at {bs : List Int} (hb : Bytes bs) (j : Nat) (h : j < bs.length) : 0 ≤ bs.getD j 0 ∧ bs.getD j 0 ≤ 255 := hb j h

/-- Four lists of one to four octets, the first from 1 to 127: the contents of the number that they spell. -/
theorem canon_pos (bs : List Int) (hb : Bytes bs) (hp : 0 < bs.length) (hl : bs.length ≤ 4) (h1 : 0 < bs.getD 0 0) (h2 : bs.getD 0 0 < 128) : cont (val bs).toNat = bs := by
  match bs, hp, hl with
  | [a], _, _ =>
    simp only [List.getD_cons_zero] at h1 h2
    have e : val [a] = a := by simp [val]
    rw [e, cont1 _ (by omega)]
    congr 1; omega
  | [a, b], _, _ =>
    have b1 := hb 1 (by simp)
    simp only [List.getD_cons_zero, List.getD_cons_succ] at h1 h2 b1
    have e : val [a, b] = a * 256 + b := by simp [val]
    rw [e, cont2 _ (by omega) (by omega)]
    congr 1; · omega
    congr 1; omega
  | [a, b, c], _, _ =>
    have b1 := hb 1 (by simp)
    have b2 := hb 2 (by simp)
    simp only [List.getD_cons_zero, List.getD_cons_succ] at h1 h2 b1 b2
    have e : val [a, b, c] = (a * 256 + b) * 256 + c := by simp [val]
    rw [e, cont3 _ (by omega) (by omega)]
    congr 1; · omega
    congr 1; · omega
    congr 1; omega
  | [a, b, c, d], _, _ =>
    have b1 := hb 1 (by simp)
    have b2 := hb 2 (by simp)
    have b3 := hb 3 (by simp)
    simp only [List.getD_cons_zero, List.getD_cons_succ] at h1 h2 b1 b2 b3
    have e : val [a, b, c, d] = ((a * 256 + b) * 256 + c) * 256 + d := by simp [val]
    rw [e, cont4 _ (by omega) (by omega)]
    congr 1; · omega
    congr 1; · omega
    congr 1; · omega
    congr 1; omega
  | _ :: _ :: _ :: _ :: _ :: _, _, hl => simp at hl

/-- One to four octets, the first from 128 on: the contents are they with a 0 ahead. -/
theorem canon_zero (bs : List Int) (hb : Bytes bs) (hp : 0 < bs.length) (hl : bs.length ≤ 4) (h1 : 128 ≤ bs.getD 0 0) : cont (val bs).toNat = 0 :: bs := by
  match bs, hp, hl with
  | [a], _, _ =>
    have b0 := hb 0 (by simp)
    simp only [List.getD_cons_zero] at h1 b0
    have e : val [a] = a := by simp [val]
    rw [e, cont2 _ (by omega) (by omega)]
    congr 1; · omega
    congr 1; omega
  | [a, b], _, _ =>
    have b0 := hb 0 (by simp)
    have b1 := hb 1 (by simp)
    simp only [List.getD_cons_zero, List.getD_cons_succ] at h1 b0 b1
    have e : val [a, b] = a * 256 + b := by simp [val]
    rw [e, cont3 _ (by omega) (by omega)]
    congr 1; · omega
    congr 1; · omega
    congr 1; omega
  | [a, b, c], _, _ =>
    have b0 := hb 0 (by simp)
    have b1 := hb 1 (by simp)
    have b2 := hb 2 (by simp)
    simp only [List.getD_cons_zero, List.getD_cons_succ] at h1 b0 b1 b2
    have e : val [a, b, c] = (a * 256 + b) * 256 + c := by simp [val]
    rw [e, cont4 _ (by omega) (by omega)]
    congr 1; · omega
    congr 1; · omega
    congr 1; · omega
    congr 1; omega
  | [a, b, c, d], _, _ =>
    have b0 := hb 0 (by simp)
    have b1 := hb 1 (by simp)
    have b2 := hb 2 (by simp)
    have b3 := hb 3 (by simp)
    simp only [List.getD_cons_zero, List.getD_cons_succ] at h1 b0 b1 b2 b3
    have e : val [a, b, c, d] = ((a * 256 + b) * 256 + c) * 256 + d := by simp [val]
    rw [e, cont5 _ (by omega) (by omega)]
    congr 1
    congr 1; · omega
    congr 1; · omega
    congr 1; · omega
    congr 1; omega
  | _ :: _ :: _ :: _ :: _ :: _, _, hl => simp at hl

theorem bytes_drop {bs : List Int} (h : Bytes bs) (k : Nat) : Bytes (bs.drop k) := by
  intro j hj
  have := h (k + j) (by simp at hj; omega)
  simpa [List.getD, List.getElem?_drop] using this

/-- What checkInteger accepts, not negative, of at most four octets behind its zeros, is what EncodeUint32 writes for the number it spells. -/
theorem canon (bs : List Int) (hb : Bytes bs) (hk : chk bs = true) (h0 : bs.getD 0 0 < 128) (hl : bs.length - lz bs ≤ 4) : cont (val (bs.drop (lz bs))).toNat = bs := by
  obtain ⟨hp, hc⟩ := chk_true hk
  match bs, hp with
  | x :: xs, _ =>
    by_cases hx : x = 0
    · subst hx
      match xs with
      | [] => simp [lz, val, cont1]
      | y :: ys =>
        have hy := (hc (by simp)).1
        simp only [List.getD_cons_zero, List.getD_cons_succ, true_and] at hy
        have hlz : lz ((0 : Int) :: y :: ys) = 1 := by
          simp only [lz]
          rw [if_pos trivial, if_neg (by omega)]
        rw [hlz] at hl ⊢
        have := canon_zero (y :: ys) (bytes_tail hb) (by simp) (by simpa using hl) (by simp only [List.getD_cons_zero]; omega)
        simpa using this
    · have hlz : lz (x :: xs) = 0 := by simp only [lz]; rw [if_neg hx]
      rw [hlz] at hl ⊢
      have hb0 := hb 0 (by simp)
      simp only [List.getD_cons_zero] at h0 hb0
      have := canon_pos (x :: xs) hb (by simp) (by simpa using hl) (by simp only [List.getD_cons_zero]; omega) (by simpa using h0)
      simpa using this

theorem val_lt (bs : List Int) (hb : Bytes bs) (hl : bs.length ≤ 4) : 0 ≤ val bs ∧ val bs < 4294967296 := by
  have h := val_take bs hb bs.length (Nat.le_refl _)
  rw [List.take_length] at h
  have : (256 : Int) ^ bs.length ≤ 4294967296 := by
    generalize bs.length = n at hl
    match n, hl with
    | 0, _ => decide
    | 1, _ => decide
    | 2, _ => decide
    | 3, _ => decide
    | 4, _ => decide
  omega

/-- Where the octets behind the zeros are more than four, Uint32 refuses. -/
theorem refuse_long (bs : List Int) (hb : Bytes bs) (h0 : bs.getD 0 0 < 128) (hl : 4 < bs.length - lz bs) :
    chk bs = false ∨ (chk bs = true ∧ 128 ≤ bs.getD 0 0) ∨ (chk bs = true ∧ bs.getD 0 0 = 0 ∧ 5 < bs.length) ∨ (chk bs = true ∧ 0 < bs.getD 0 0 ∧ bs.getD 0 0 < 128 ∧ 4 < bs.length) := by
  cases hc : chk bs with
  | false => exact .inl rfl
  | true =>
    by_cases hz : bs.getD 0 0 = 0
    · have h1 : 1 ≤ lz bs := by
        match bs, hl with
        | x :: xs, _ =>
          simp only [List.getD_cons_zero] at hz
          simp only [lz]
          rw [if_pos hz]
          omega
      exact .inr (.inr (.inl ⟨rfl, hz, by omega⟩))
    · have := hb 0 (by omega)
      exact .inr (.inr (.inr ⟨rfl, by omega, h0, by omega⟩))

theorem refuse_neg (bs : List Int) (h0 : 128 ≤ bs.getD 0 0) :
    chk bs = false ∨ (chk bs = true ∧ 128 ≤ bs.getD 0 0) ∨ (chk bs = true ∧ bs.getD 0 0 = 0 ∧ 5 < bs.length) ∨ (chk bs = true ∧ 0 < bs.getD 0 0 ∧ bs.getD 0 0 < 128 ∧ 4 < bs.length) := by
  cases hc : chk bs with
  | false => exact .inl rfl
  | true => exact .inr (.inl ⟨rfl, h0⟩)

theorem refuse_other (bs : List Int) (hb : Bytes bs) (h0 : bs.getD 0 0 < 128) (hl : bs.length - lz bs ≤ 4) (hne : ¬ cont (val (bs.drop (lz bs))).toNat = bs) :
    chk bs = false ∨ (chk bs = true ∧ 128 ≤ bs.getD 0 0) ∨ (chk bs = true ∧ bs.getD 0 0 = 0 ∧ 5 < bs.length) ∨ (chk bs = true ∧ 0 < bs.getD 0 0 ∧ bs.getD 0 0 < 128 ∧ 4 < bs.length) := by
  cases hc : chk bs with
  | false => exact .inl rfl
  | true => exact absurd (canon bs hb hc h0 hl) hne
end Go.Proofs.Qxb6002406a
