/-
  An argument of type []byte, as the row's step opens it.
-/
import Derived.Test.Qxb6601598aBase
import Derived.OpenShut
namespace Go.Proofs.Qxb6601598a
open Go.RowKit

/-- An argument of type []byte, as the row's step opens it, reads as its first 'len' numbers, each a byte. -/
theorem rd_arg {w : World} {a : Option Addr} {len cap : Nat} {zs : List Int}
    (h : (a = none ∧ len = 0 ∧ cap = 0 ∧ zs = []) ∨
      ∃ x, a = some x ∧ len ≤ cap ∧ cap ≤ maxLen ∧ zs.length = cap ∧ (∀ i, i < zs.length → w.cell? (x.add i) = some (.int .u8 (zs.getD i 0))) ∧ ∀ n ∈ zs, (Lit.int .u8 n).wf = true) :
    Rd w (.slice a len cap) (zs.take len) ∧ (zs.take len).length = len ∧ len ≤ maxLen ∧ ∀ x ∈ zs.take len, 0 ≤ x ∧ x ≤ 255 := by
  rcases h with ⟨rfl, rfl, rfl, rfl⟩ | ⟨x, rfl, h1, h2, h3, h4, h5⟩
  · exact ⟨.inl ⟨none, 0, rfl, rfl, fun _ => rfl, Nat.zero_le _⟩, rfl, Nat.zero_le _, fun x hx => by simp at hx⟩
  · have hlen : (zs.take len).length = len := by rw [List.length_take]; omega
    refine ⟨?_, hlen, Nat.le_trans h1 h2, fun x hx => bounds_u8 (h5 x (List.mem_of_mem_take hx))⟩
    by_cases hz : len = 0
    · subst hz
      exact .inl ⟨some x, cap, rfl, by simp, (fun h => by cases h), h2⟩
    · obtain ⟨b, off, rfl, hc⟩ := ints_at h4 (by omega)
      have hb : b < w.heap.size := World.block_lt_of_cell? w _ (hc 0 (by omega))
      refine .inr ⟨b, off, cap, by rw [hlen], by omega, by omega, h2, hb, fun j hj => ?_⟩
      rw [hc j (by omega)]
      rw [hlen] at hj
      simp [List.getD, hj]

end Go.Proofs.Qxb6601598a
