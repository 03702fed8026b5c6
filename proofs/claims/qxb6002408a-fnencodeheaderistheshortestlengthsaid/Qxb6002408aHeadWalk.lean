/-
  The walk of FnEncodeHeaderIsTheShortestLength (4), every input.
-/
import Derived.Test.Qxb6002408aHeadLong
namespace Go.Proofs.Qxb6002408a
open Go.RowKit

/-- An argument of type []byte, as the row's step opens it, reads as its first 'len' numbers, each a byte. -/
theorem rd_of_row {w : World} {a : Option Addr} {len cap : Nat} {zs : List Int}
    (h : (a = none ∧ len = 0 ∧ cap = 0 ∧ zs = []) ∨
      ∃ x, a = some x ∧ len ≤ cap ∧ cap ≤ maxLen ∧ zs.length = cap ∧ (∀ i, i < zs.length → w.cell? (x.add i) = some (.int .u8 (zs.getD i 0))) ∧ ∀ n ∈ zs, (Lit.int .u8 n).wf = true) :
    Rd w (.slice a len cap) (zs.take len) ∧ (zs.take len).length = len ∧ len ≤ maxLen := by
  rcases h with ⟨rfl, rfl, rfl, rfl⟩ | ⟨x, rfl, h1, h2, h3, h4, h5⟩
  · exact ⟨.inl ⟨none, 0, rfl, rfl, fun _ => rfl, Nat.zero_le _⟩, rfl, Nat.zero_le _⟩
  · have hlen : (zs.take len).length = len := by rw [List.length_take]; omega
    refine ⟨?_, hlen, Nat.le_trans h1 h2⟩
    by_cases hz : len = 0
    · subst hz
      exact .inl ⟨some x, cap, rfl, by simp, (fun h => by cases h), h2⟩
    · obtain ⟨b, off, rfl, hc⟩ := ints_at h4 (by omega)
      have hb : b < w.heap.size := World.block_lt_of_cell? w _ (hc 0 (by omega))
      refine .inr ⟨b, off, cap, by rw [hlen], by omega, by omega, h2, hb, fun j hj => ?_⟩
      rw [hc j (by omega)]
      rw [hlen] at hj
      simp [List.getD, hj]

set_option maxHeartbeats 400000 in
set_option maxRecDepth 100000 in
theorem headWalk (t : Int) (ao : Option Addr) (len cap : Nat) (bs : List Int) (m : Int) (w : World) (hr : Rd w (.slice ao len cap) bs) (hlen : bs.length = len) (hmax : len ≤ maxLen) :
    Calls Try.prog 4 #[.int .u8 t, .slice ao len cap, .int .i64 m] w fun e w' => e = .returned (.bool true) ∧ Below w.heap.size w w' := by
  unfold maxLen at hmax
  by_cases h20 : 1048576 < len
  · go_enter Try.func4, Try.ntmps4
    go_wp2_with (go_at_call 9; refine (zz9_no _ _ _ _ _ _ h20).mono ?_; rintro e w1 ⟨rfl, rfl⟩)
    go_ret
    exact ⟨rfl, Below.refl _ _⟩
  by_cases h10 : 1024 < len
  · go_enter Try.func4, Try.ntmps4
    go_wp2_with (go_at_call 9; refine (zz9_yes _ _ _ _ _ _ (by omega)).mono ?_; rintro e w1 ⟨rfl, rfl⟩)
    go_ret
    exact ⟨rfl, Below.refl _ _⟩
  by_cases hneg : m < 0
  · go_enter Try.func4, Try.ntmps4
    go_wp2_with (go_at_call 9; refine (zz9_yes _ _ _ _ _ _ (by omega)).mono ?_; rintro e w1 ⟨rfl, rfl⟩)
    go_ret
    exact ⟨rfl, Below.refl _ _⟩
  by_cases hbig : 1024 < m
  · go_enter Try.func4, Try.ntmps4
    go_wp2_with (go_at_call 9; refine (zz9_yes _ _ _ _ _ _ (by omega)).mono ?_; rintro e w1 ⟨rfl, rfl⟩)
    go_ret
    exact ⟨rfl, Below.refl _ _⟩
  obtain ⟨k, rfl⟩ := Int.eq_ofNat_of_zero_le (show 0 ≤ m by omega)
  by_cases hN : k * bs.length < 128
  · exact head_short t ao len cap bs k w hr hlen (by omega) (by omega) hN
  · exact head_long t ao len cap bs k w hr hlen (by omega) (by omega) hN
end Go.Proofs.Qxb6002408a
