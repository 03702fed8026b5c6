/-
  The plain laws of the hash: no Go in sight.
-/
namespace Go.Proofs.Qxb6601598a

/-- 2^64. -/
def M64 : Nat := 18446744073709551616
/-- The FNV prime, its inverse, the offset basis. -/
def fnvP : Nat := 1099511628211
def fnvI : Nat := 14886173955864302971
def fnvB : Nat := 14695981039346656037

/-- One octet taken into the hash. -/
def stepN (h c : Nat) : Nat := (h ^^^ c) * fnvP % M64

/-- The hash of octets. -/
def hashL (l : List Int) : Nat := l.foldl (fun h c => stepN h c.toNat) fnvB

theorem M64_pos : 0 < M64 := by unfold M64; omega
theorem fnvB_lt : fnvB < M64 := by unfold fnvB M64; omega
theorem stepN_lt (h c : Nat) : stepN h c < M64 := Nat.mod_lt _ M64_pos

theorem hashL_nil : hashL [] = fnvB := by unfold hashL; rw [List.foldl_nil]
theorem hashL_snoc (l : List Int) (x : Int) : hashL (l ++ [x]) = stepN (hashL l) x.toNat := by
  unfold hashL
  rw [List.foldl_append, List.foldl_cons, List.foldl_nil]

theorem hashL_lt (l : List Int) : hashL l < M64 := by
  rcases List.eq_nil_or_concat l with rfl | ⟨l', x, rfl⟩
  · rw [hashL_nil]; exact fnvB_lt
  · rw [List.concat_eq_append, hashL_snoc]; exact stepN_lt _ _

theorem inv_eq : fnvP * fnvI = 887285111055 * M64 + 1 := by unfold fnvP fnvI M64; omega

/-- Multiplying by the prime, then by its inverse, gives the number back. -/
theorem unmul (x : Nat) (h : x < M64) : x * fnvP % M64 * fnvI % M64 = x := by
  rw [Nat.mod_mul_mod, Nat.mul_assoc, inv_eq, Nat.mul_add, Nat.mul_one, ← Nat.mul_assoc, Nat.mul_add_mod_self_right]
  exact Nat.mod_eq_of_lt h

theorem xor_lt (h c : Nat) (h1 : h < M64) (h2 : c < 256) : h ^^^ c < M64 := by
  have e : M64 = 2 ^ 64 := by unfold M64; omega
  rw [e] at h1 ⊢
  exact Nat.xor_lt_two_pow h1 (by omega)

theorem xor_back (h c : Nat) : (h ^^^ c) ^^^ c = h := by rw [Nat.xor_assoc, Nat.xor_self, Nat.xor_zero]

/-- A step undone. -/
theorem unstep (h c : Nat) (h1 : h < M64) (h2 : c < 256) : (stepN h c * fnvI % M64) ^^^ c = h := by
  unfold stepN
  rw [unmul _ (xor_lt h c h1 h2), xor_back]

theorem stepN_inj {h g c : Nat} (h1 : h < M64) (h2 : g < M64) (h3 : c < 256) (e : stepN h c = stepN g c) : h = g := by
  rw [← unstep h c h1 h3, ← unstep g c h2 h3, e]

theorem stepN_inj_right {h c d : Nat} (h1 : h < M64) (h2 : c < 256) (h3 : d < 256) (e : stepN h c = stepN h d) : c = d := by
  have e1 : h ^^^ c = h ^^^ d := by
    rw [← unmul _ (xor_lt h c h1 h2), ← unmul _ (xor_lt h d h1 h3)]
    unfold stepN at e
    rw [e]
  have e2 : h ^^^ (h ^^^ c) = h ^^^ (h ^^^ d) := by rw [e1]
  rwa [← Nat.xor_assoc, ← Nat.xor_assoc, Nat.xor_self, Nat.zero_xor, Nat.zero_xor] at e2

/-- Two lists of one length that part at one place have two hashes. -/
theorem hash_tail (l : List Int) (hl : ∀ x ∈ l, 0 ≤ x ∧ x ≤ 255) (h g : Nat) (h1 : h < M64) (h2 : g < M64) (hne : ¬ h = g) :
    ¬ l.foldl (fun h c => stepN h c.toNat) h = l.foldl (fun h c => stepN h c.toNat) g := by
  induction l generalizing h g with
  | nil => exact hne
  | cons x xs ih =>
    rw [List.foldl_cons, List.foldl_cons]
    have hx := hl x (List.mem_cons_self ..)
    exact ih (fun y hy => hl y (List.mem_cons_of_mem _ hy)) _ _ (stepN_lt _ _) (stepN_lt _ _) (fun e => hne (stepN_inj h1 h2 (by omega) e))

theorem hash_parts (l : List Int) (hl : ∀ x ∈ l, 0 ≤ x ∧ x ≤ 255) (i : Nat) (hi : i < l.length) (c : Int) (hc : 0 ≤ c ∧ c ≤ 255) (hne : ¬ l.getD i 0 = c) : ¬ hashL l = hashL (l.set i c) := by
  have hx := hl (l.getD i 0) (by simp [List.getD, hi])
  have e1 : l = l.take i ++ l.getD i 0 :: l.drop (i + 1) := by
    have h1 : l.getD i 0 = l[i] := by simp [List.getD, hi]
    rw [h1, ← List.drop_eq_getElem_cons hi, List.take_append_drop]
  have e2 : l.set i c = l.take i ++ c :: l.drop (i + 1) := by
    apply List.ext_getElem?
    intro j
    rw [List.getElem?_set, List.getElem?_append, List.length_take, Nat.min_eq_left (Nat.le_of_lt hi)]
    by_cases h1 : i = j
    · subst h1; simp [hi]
    · by_cases h2 : j < i
      · simp [h1, h2]
      · obtain ⟨d, rfl⟩ : ∃ d, j = i + 1 + d := ⟨j - (i + 1), by omega⟩
        rw [if_neg h1, if_neg h2, show i + 1 + d - i = d + 1 by omega, List.getElem?_cons_succ, List.getElem?_drop]
  have k1 : hashL l = (l.drop (i + 1)).foldl (fun h c => stepN h c.toNat) (stepN (hashL (l.take i)) (l.getD i 0).toNat) := by
    refine (congrArg hashL e1).trans ?_
    unfold hashL
    rw [List.foldl_append, List.foldl_cons]
  have k2 : hashL (l.set i c) = (l.drop (i + 1)).foldl (fun h c => stepN h c.toNat) (stepN (hashL (l.take i)) c.toNat) := by
    rw [e2]
    unfold hashL
    rw [List.foldl_append, List.foldl_cons]
  rw [k1, k2]
  refine hash_tail _ (fun x hx => hl x (List.mem_of_mem_drop hx)) _ _ (stepN_lt _ _) (stepN_lt _ _) (fun e => hne ?_)
  have := stepN_inj_right (hashL_lt (l.take i)) (by omega) (by omega) e
  omega

theorem take_snoc (l : List Int) (k : Nat) (h : k < l.length) : l.take (k + 1) = l.take k ++ [l.getD k 0] := by
  rw [List.take_succ_eq_append_getElem h]; simp [List.getD, h]

theorem hash_take_succ (l : List Int) (k : Nat) (h : k < l.length) : hashL (l.take (k + 1)) = stepN (hashL (l.take k)) (l.getD k 0).toNat := by
  rw [take_snoc l k h, hashL_snoc]

/-- One round of the unwinding. -/
theorem hash_unwind (l : List Int) (hl : ∀ x ∈ l, 0 ≤ x ∧ x ≤ 255) (k : Nat) (h : k < l.length) : (hashL (l.take (k + 1)) * fnvI % M64) ^^^ (l.getD k 0).toNat = hashL (l.take k) := by
  have hx := hl (l.getD k 0) (by simp [List.getD, h])
  rw [hash_take_succ l k h]
  exact unstep _ _ (hashL_lt _) (by omega)

end Go.Proofs.Qxb6601598a
