/-
  Plain functions and laws: no Go in sight.
-/
namespace Go.Proofs.Qxb6002406a

/-- The octets of u, most significant first, ahead of acc; fuel in the first place. -/
def be : Nat → Nat → List Int → List Int
  | 0, _, acc => acc
  | f + 1, u, acc => if u = 0 then acc else be f (u / 256) (((u % 256 : Nat) : Int) :: acc)

theorem be_zero (f : Nat) (acc : List Int) : be f 0 acc = acc := by cases f <;> simp [be]
theorem be_succ (f u : Nat) (acc : List Int) (h : 0 < u) : be (f + 1) u acc = be f (u / 256) (((u % 256 : Nat) : Int) :: acc) := by
  simp [be]; omega

theorem be_length (f u : Nat) (acc : List Int) : (be f u acc).length ≤ acc.length + f := by
  induction f generalizing u acc with
  | zero => simp [be]
  | succ f ih =>
    simp only [be]
    split
    · omega
    · have := ih (u / 256) (((u % 256 : Nat) : Int) :: acc)
      simp at this ⊢
      omega

/-- The header's length octets. -/
def lenOct (n : Nat) : List Int := if n < 128 then [(n : Int)] else ((128 + (be 8 n []).length : Nat) : Int) :: be 8 n []

def encode (t : Int) (body : List Int) : List Int := t :: (lenOct body.length ++ body)

/-- EncodeUint32's contents. -/
def cont (v : Nat) : List Int :=
  if be 4 v [] = [] ∨ 128 ≤ (be 4 v []).getD 0 0 then 0 :: be 4 v [] else be 4 v []

def encU (v : Nat) : List Int := encode 2 (cont v)

/-- The lists of parts, the first k of them joined. -/
def jn {α : Type} (ps : List (α × List Int)) (k : Nat) : List Int := (ps.take k).flatMap Prod.snd
def joined {α : Type} (ps : List (α × List Int)) : List Int := ps.flatMap Prod.snd

theorem jn_zero {α : Type} (ps : List (α × List Int)) : jn ps 0 = [] := by simp [jn]
theorem jn_succ {α : Type} (ps : List (α × List Int)) (k : Nat) (p : α × List Int) (h : ps[k]? = some p) : jn ps (k + 1) = jn ps k ++ p.2 := by
  have hk : k < ps.length := (List.getElem?_eq_some_iff.1 h).1
  have he : ps[k] = p := (List.getElem?_eq_some_iff.1 h).2
  simp only [jn]
  rw [List.take_succ_eq_append_getElem hk, List.flatMap_append, he]
  simp
theorem jn_all {α : Type} (ps : List (α × List Int)) : jn ps ps.length = joined ps := by simp [jn, joined]
theorem jn_le {α : Type} (ps : List (α × List Int)) (k : Nat) : (jn ps k).length ≤ (joined ps).length := by
  have h : joined ps = jn ps k ++ (ps.drop k).flatMap Prod.snd := by
    simp only [jn, joined]
    rw [← List.flatMap_append, List.take_append_drop]
  rw [h, List.length_append]
  omega

/-- Two lists of numbers compared, the shorter first where one opens the other. -/
def cmp : List Int → List Int → Int
  | [], [] => 0
  | [], _ :: _ => -1
  | _ :: _, [] => 1
  | a :: xs, b :: ys => if a < b then -1 else if b < a then 1 else cmp xs ys

theorem drop_cons (A : List Int) (k : Nat) (h : k < A.length) : A.drop k = A.getD k 0 :: A.drop (k + 1) := by
  rw [List.drop_eq_getElem_cons h]; simp [List.getD, h]

theorem cmp_step (A B : List Int) (k : Nat) (ha : k < A.length) (hb : k < B.length) (h1 : ¬ A.getD k 0 < B.getD k 0) (h2 : ¬ B.getD k 0 < A.getD k 0) : cmp (A.drop k) (B.drop k) = cmp (A.drop (k + 1)) (B.drop (k + 1)) := by
  rw [drop_cons A k ha, drop_cons B k hb, cmp, if_neg h1, if_neg h2]
theorem cmp_lt (A B : List Int) (k : Nat) (ha : k < A.length) (hb : k < B.length) (h1 : A.getD k 0 < B.getD k 0) : cmp (A.drop k) (B.drop k) = -1 := by
  rw [drop_cons A k ha, drop_cons B k hb, cmp, if_pos h1]
theorem cmp_gt (A B : List Int) (k : Nat) (ha : k < A.length) (hb : k < B.length) (h1 : ¬ A.getD k 0 < B.getD k 0) (h2 : B.getD k 0 < A.getD k 0) : cmp (A.drop k) (B.drop k) = 1 := by
  rw [drop_cons A k ha, drop_cons B k hb, cmp, if_neg h1, if_pos h2]
theorem cmp_end (A B : List Int) (k : Nat) (h : k = A.length ∨ k = B.length) (ha : k ≤ A.length) (hb : k ≤ B.length) :
    cmp (A.drop k) (B.drop k) = if A.length < B.length then -1 else if B.length < A.length then 1 else 0 := by
  by_cases h1 : k < A.length
  · have h2 : k = B.length := by omega
    rw [drop_cons A k h1, List.drop_of_length_le (show B.length ≤ k by omega), cmp, if_neg (by omega), if_pos (by omega)]
  · rw [List.drop_of_length_le (show A.length ≤ k by omega)]
    by_cases h2 : k < B.length
    · rw [drop_cons B k h2, cmp, if_pos (by omega)]
    · rw [List.drop_of_length_le (show B.length ≤ k by omega), cmp, if_neg (by omega), if_neg (by omega)]

/-- Each number is a byte. -/
def Bytes (bs : List Int) : Prop := ∀ j, j < bs.length → 0 ≤ bs.getD j 0 ∧ bs.getD j 0 ≤ 255

/-- The number that the octets spell, most significant first. -/
def val (l : List Int) : Int := l.foldl (fun a b => a * 256 + b) 0

theorem val_snoc (l : List Int) (x : Int) : val (l ++ [x]) = val l * 256 + x := by simp [val]

theorem take_snoc (l : List Int) (k : Nat) (h : k < l.length) : l.take (k + 1) = l.take k ++ [l.getD k 0] := by
  rw [List.take_succ_eq_append_getElem h]; simp [List.getD, h]

theorem val_take_succ (l : List Int) (k : Nat) (h : k < l.length) : val (l.take (k + 1)) = val (l.take k) * 256 + l.getD k 0 := by
  rw [take_snoc l k h, val_snoc]

theorem val_take (l : List Int) (hb : Bytes l) (k : Nat) (h : k ≤ l.length) : 0 ≤ val (l.take k) ∧ val (l.take k) < 256 ^ k := by
  induction k with
  | zero => simp [val]
  | succ k ih =>
    have h1 := ih (by omega)
    have h2 := hb k (by omega)
    rw [val_take_succ l k (by omega), Int.pow_succ]
    omega

/-- With fewer than four octets taken, one more still fits. -/
theorem val_take_bound (l : List Int) (hb : Bytes l) (k : Nat) (hk : k < 4) (h : k ≤ l.length) : 0 ≤ val (l.take k) ∧ val (l.take k) < 16777216 := by
  have h1 := val_take l hb k h
  have : (256 : Int) ^ k ≤ 16777216 := by
    match k, hk with
    | 0, _ => decide
    | 1, _ => decide
    | 2, _ => decide
    | 3, _ => decide
  omega

end Go.Proofs.Qxb6002406a
