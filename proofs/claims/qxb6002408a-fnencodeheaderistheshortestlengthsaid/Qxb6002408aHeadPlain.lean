/-
  The plain law of the header: the octets of a length.
-/
import Derived.Test.Qxb6002408aPlain
namespace Go.Proofs.Qxb6002408a

theorem be8_1 (v : Nat) (h0 : 0 < v) (h : v < 256) : be 8 v [] = [(v : Int)] := by
  rw [be_succ _ _ _ h0, show v / 256 = 0 by omega, be_zero, show v % 256 = v by omega]
theorem be8_2 (v : Nat) (h0 : 256 ≤ v) (h : v < 65536) : be 8 v [] = [((v / 256 : Nat) : Int), ((v % 256 : Nat) : Int)] := by
  rw [be_succ _ _ _ (by omega), be_succ _ _ _ (by omega), show v / 256 / 256 = 0 by omega, be_zero, show v / 256 % 256 = v / 256 by omega]
theorem be8_3 (v : Nat) (h0 : 65536 ≤ v) (h : v < 16777216) : be 8 v [] = [((v / 65536 : Nat) : Int), ((v / 256 % 256 : Nat) : Int), ((v % 256 : Nat) : Int)] := by
  rw [be_succ _ _ _ (by omega), be_succ _ _ _ (by omega), be_succ _ _ _ (by omega), show v / 256 / 256 / 256 = 0 by omega, be_zero, show v / 256 / 256 % 256 = v / 65536 by omega]

theorem bytes_of (l : List Int) (h : ∀ x ∈ l, 0 ≤ x ∧ x ≤ 255) : Bytes l := by
  intro j hj
  exact h (l.getD j 0) (by simp [List.getD, hj])

/-- The octets of a length from 128 to 2^20: one to three, the first not 0; they spell the length. -/
theorem be_len (n : Nat) (h0 : 128 ≤ n) (h : n ≤ 1048576) : 1 ≤ (be 8 n []).length ∧ (be 8 n []).length ≤ 3 ∧ ¬ (be 8 n []).getD 0 0 = 0 ∧ val (be 8 n []) = (n : Int) ∧ Bytes (be 8 n []) := by
  by_cases h1 : n < 256
  · rw [be8_1 n (by omega) h1]
    refine ⟨by simp, by simp, by simp; omega, by simp [val], bytes_of _ fun x hx => ?_⟩
    simp only [List.mem_cons, List.not_mem_nil, or_false] at hx; omega
  by_cases h2 : n < 65536
  · rw [be8_2 n (by omega) h2]
    refine ⟨by simp, by simp, by simp; omega, by simp [val]; omega, bytes_of _ fun x hx => ?_⟩
    simp only [List.mem_cons, List.not_mem_nil, or_false] at hx; omega
  · rw [be8_3 n (by omega) (by omega)]
    refine ⟨by simp, by simp, by simp; omega, by simp [val]; omega, bytes_of _ fun x hx => ?_⟩
    simp only [List.mem_cons, List.not_mem_nil, or_false] at hx; omega

end Go.Proofs.Qxb6002408a
