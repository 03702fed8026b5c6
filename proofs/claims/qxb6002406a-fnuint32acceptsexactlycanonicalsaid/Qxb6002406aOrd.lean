/-
  The plain law: the order of two encodings is the numeric order.
-/
import Derived.Test.Qxb6002406aPlain
namespace Go.Proofs.Qxb6002406a

theorem be_stop (f u : Nat) (acc : List Int) (h : u = 0) : be f u acc = acc := by rw [h, be_zero]

theorem be1 (v : Nat) (h0 : 0 < v) (h : v < 256) : be 4 v [] = [(v : Int)] := by
  rw [be_succ _ _ _ h0, be_stop _ _ _ (by omega), show v % 256 = v by omega]
theorem be2 (v : Nat) (h0 : 256 ≤ v) (h : v < 65536) : be 4 v [] = [((v / 256 : Nat) : Int), ((v % 256 : Nat) : Int)] := by
  rw [be_succ _ _ _ (by omega), be_succ _ _ _ (by omega), be_stop _ _ _ (by omega), show v / 256 % 256 = v / 256 by omega]
theorem be3 (v : Nat) (h0 : 65536 ≤ v) (h : v < 16777216) : be 4 v [] = [((v / 65536 : Nat) : Int), ((v / 256 % 256 : Nat) : Int), ((v % 256 : Nat) : Int)] := by
  rw [be_succ _ _ _ (by omega), be_succ _ _ _ (by omega), be_succ _ _ _ (by omega), be_stop _ _ _ (by omega), show v / 256 / 256 % 256 = v / 65536 by omega]
theorem be4 (v : Nat) (h0 : 16777216 ≤ v) (h : v < 4294967296) : be 4 v [] = [((v / 16777216 : Nat) : Int), ((v / 65536 % 256 : Nat) : Int), ((v / 256 % 256 : Nat) : Int), ((v % 256 : Nat) : Int)] := by
  rw [be_succ _ _ _ (by omega), be_succ _ _ _ (by omega), be_succ _ _ _ (by omega), be_succ _ _ _ (by omega), be_stop _ _ _ (by omega), show v / 256 / 256 / 256 % 256 = v / 16777216 by omega, show v / 256 / 256 % 256 = v / 65536 % 256 by omega]

theorem cont1 (v : Nat) (h : v < 128) : cont v = [(v : Int)] := by
  unfold cont
  by_cases h0 : v = 0
  · subst h0; rw [be_zero, if_pos (.inl rfl)]; rfl
  · rw [be1 v (by omega) (by omega), if_neg (by simp; omega)]
theorem cont2 (v : Nat) (h0 : 128 ≤ v) (h : v < 32768) : cont v = [((v / 256 : Nat) : Int), ((v % 256 : Nat) : Int)] := by
  unfold cont
  by_cases h1 : v < 256
  · rw [be1 v (by omega) (by omega), if_pos (by simp; omega), show v / 256 = 0 by omega, show v % 256 = v by omega]; rfl
  · rw [be2 v (by omega) (by omega), if_neg (by simp; omega)]
theorem cont3 (v : Nat) (h0 : 32768 ≤ v) (h : v < 8388608) : cont v = [((v / 65536 : Nat) : Int), ((v / 256 % 256 : Nat) : Int), ((v % 256 : Nat) : Int)] := by
  unfold cont
  by_cases h1 : v < 65536
  · rw [be2 v (by omega) (by omega), if_pos (by simp; omega), show v / 65536 = 0 by omega, show v / 256 % 256 = v / 256 by omega]; rfl
  · rw [be3 v (by omega) (by omega), if_neg (by simp; omega)]
theorem cont4 (v : Nat) (h0 : 8388608 ≤ v) (h : v < 2147483648) : cont v = [((v / 16777216 : Nat) : Int), ((v / 65536 % 256 : Nat) : Int), ((v / 256 % 256 : Nat) : Int), ((v % 256 : Nat) : Int)] := by
  unfold cont
  by_cases h1 : v < 16777216
  · rw [be3 v (by omega) (by omega), if_pos (by simp; omega), show v / 16777216 = 0 by omega, show v / 65536 % 256 = v / 65536 by omega]; rfl
  · rw [be4 v (by omega) (by omega), if_neg (by simp; omega)]
theorem cont5 (v : Nat) (h0 : 2147483648 ≤ v) (h : v < 4294967296) : cont v = [0, ((v / 16777216 : Nat) : Int), ((v / 65536 % 256 : Nat) : Int), ((v / 256 % 256 : Nat) : Int), ((v % 256 : Nat) : Int)] := by
  unfold cont
  rw [be4 v (by omega) (by omega), if_pos (by simp; omega)]

/-- The five shapes of the contents. -/
def Shape (v : Nat) (k : Nat) : Prop :=
  (k = 1 ∧ v < 128 ∧ encU v = [2, 1, (v : Int)]) ∨
  (k = 2 ∧ 128 ≤ v ∧ v < 32768 ∧ encU v = [2, 2, ((v / 256 : Nat) : Int), ((v % 256 : Nat) : Int)]) ∨
  (k = 3 ∧ 32768 ≤ v ∧ v < 8388608 ∧ encU v = [2, 3, ((v / 65536 : Nat) : Int), ((v / 256 % 256 : Nat) : Int), ((v % 256 : Nat) : Int)]) ∨
  (k = 4 ∧ 8388608 ≤ v ∧ v < 2147483648 ∧ encU v = [2, 4, ((v / 16777216 : Nat) : Int), ((v / 65536 % 256 : Nat) : Int), ((v / 256 % 256 : Nat) : Int), ((v % 256 : Nat) : Int)]) ∨
  (k = 5 ∧ 2147483648 ≤ v ∧ v < 4294967296 ∧ encU v = [2, 5, 0, ((v / 16777216 : Nat) : Int), ((v / 65536 % 256 : Nat) : Int), ((v / 256 % 256 : Nat) : Int), ((v % 256 : Nat) : Int)])

theorem shape (v : Nat) (h : v < 4294967296) : ∃ k, Shape v k := by
  unfold Shape
  by_cases h1 : v < 128
  · exact ⟨1, .inl ⟨rfl, h1, by simp [encU, encode, cont1 v h1, lenOct]⟩⟩
  by_cases h2 : v < 32768
  · exact ⟨2, .inr (.inl ⟨rfl, by omega, h2, by simp [encU, encode, cont2 v (by omega) h2, lenOct]⟩)⟩
  by_cases h3 : v < 8388608
  · exact ⟨3, .inr (.inr (.inl ⟨rfl, by omega, h3, by simp [encU, encode, cont3 v (by omega) h3, lenOct]⟩))⟩
  by_cases h4 : v < 2147483648
  · exact ⟨4, .inr (.inr (.inr (.inl ⟨rfl, by omega, h4, by simp [encU, encode, cont4 v (by omega) h4, lenOct]⟩)))⟩
  · exact ⟨5, .inr (.inr (.inr (.inr ⟨rfl, by omega, h, by simp [encU, encode, cont5 v (by omega) h, lenOct]⟩)))⟩

/-- c is the sign by which a and b part. -/
def SignOf (a b : Nat) (c : Int) : Prop := (a < b → c < 0) ∧ (b < a → 0 < c) ∧ (a = b → c = 0)

theorem sign_ite {a b : Nat} {p : Prop} [Decidable p] {x y : Int} (h1 : p → SignOf a b x) (h2 : ¬ p → SignOf a b y) : SignOf a b (if p then x else y) := by
  split
  · exact h1 ‹_›
  · exact h2 ‹_›

set_option maxHeartbeats 4000000 in
theorem order (a b : Nat) (ha : a < 4294967296) (hb : b < 4294967296) : SignOf a b (cmp (encU a) (encU b)) := by
  obtain ⟨k, hk⟩ := shape a ha
  obtain ⟨j, hj⟩ := shape b hb
  rcases hk with ⟨rfl, h1, e1⟩ | ⟨rfl, h0, h1, e1⟩ | ⟨rfl, h0, h1, e1⟩ | ⟨rfl, h0, h1, e1⟩ | ⟨rfl, h0, h1, e1⟩ <;>
  rcases hj with ⟨rfl, g1, e2⟩ | ⟨rfl, g0, g1, e2⟩ | ⟨rfl, g0, g1, e2⟩ | ⟨rfl, g0, g1, e2⟩ | ⟨rfl, g0, g1, e2⟩ <;>
  rw [e1, e2] <;> simp only [cmp] <;> repeat' (refine sign_ite (fun _ => ?_) (fun _ => ?_))
  all_goals (refine ⟨?_, ?_, ?_⟩ <;> intro _ <;> omega)

end Go.Proofs.Qxb6002406a
