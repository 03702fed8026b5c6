/-
  The walk of FnCheckIntegerAcceptsExactlyShortest (6).
-/
import Derived.Test.Qxb6002406aClone
import Derived.Test.Qxb6002406aShort
import Derived.OpenShut
namespace Go.Proofs.Qxb6002406a
open Go.RowKit

/-- An argument of type []byte, as the row's step opens it, reads as its first 'len' numbers, each a byte. -/
theorem rd_of_row {w : World} {a : Option Addr} {len cap : Nat} {zs : List Int}
    (h : (a = none ∧ len = 0 ∧ cap = 0 ∧ zs = []) ∨
      ∃ x, a = some x ∧ len ≤ cap ∧ cap ≤ maxLen ∧ zs.length = cap ∧ (∀ i, i < zs.length → w.cell? (x.add i) = some (.int .u8 (zs.getD i 0))) ∧ ∀ n ∈ zs, (Lit.int .u8 n).wf = true) :
    Rd w (.slice a len cap) (zs.take len) ∧ (zs.take len).length = len ∧ ∀ x ∈ zs.take len, 0 ≤ x ∧ x ≤ 255 := by
  rcases h with ⟨rfl, rfl, rfl, rfl⟩ | ⟨x, rfl, h1, h2, h3, h4, h5⟩
  · exact ⟨.inl ⟨none, 0, rfl, rfl, fun _ => rfl, Nat.zero_le _⟩, rfl, fun x hx => by simp at hx⟩
  · have hlen : (zs.take len).length = len := by rw [List.length_take]; omega
    refine ⟨?_, hlen, fun x hx => bounds_u8 (h5 x (List.mem_of_mem_take hx))⟩
    by_cases hz : len = 0
    · subst hz
      exact .inl ⟨some x, cap, rfl, by simp, (fun h => by cases h), h2⟩
    · obtain ⟨b, off, rfl, hc⟩ := ints_at h4 (by omega)
      have hb : b < w.heap.size := World.block_lt_of_cell? w _ (hc 0 (by omega))
      refine .inr ⟨b, off, cap, by rw [hlen], by omega, by omega, h2, hb, fun j hj => ?_⟩
      rw [hc j (by omega)]
      rw [hlen] at hj
      simp [List.getD, hj]

set_option maxHeartbeats 400000 in
set_option maxRecDepth 100000 in
theorem chkWalk (ao : Option Addr) (len cap : Nat) (bs : List Int) (w : World) (hr : Rd w (.slice ao len cap) bs) (hlen : bs.length = len) (hmax : len ≤ maxLen) :
    Calls Try.prog 6 #[.slice ao len cap] w fun e w' => e = .returned (.bool true) ∧ Below w.heap.size w w' := by
  unfold maxLen at hmax
  by_cases h20 : 1048576 < len
  · go_enter Try.func6, Try.ntmps6
    go_wp2_with (go_at_call 17; refine (zz17_no _ _ _ _ h20).mono ?_; rintro e w1 ⟨rfl, rfl⟩)
    go_ret
    exact ⟨rfl, Below.refl _ _⟩
  · by_cases h12 : 4096 < len
    · go_enter Try.func6, Try.ntmps6
      go_wp2_with (go_at_call 17; refine (zz17_yes _ _ _ _ (by omega)).mono ?_; rintro e w1 ⟨rfl, rfl⟩)
      go_ret
      exact ⟨rfl, Below.refl _ _⟩
    · have HL : Hid (bs.length = len) := hlen
      have hl : bs.length ≤ 4096 := by omega
      clear hlen
      go_enter Try.func6, Try.ntmps6
      go_wp2_with (first
        | (go_at_call 17; refine (zz17_yes _ _ _ _ (by omega)).mono ?_; rintro e w1 ⟨rfl, rfl⟩)
        | (go_at_call 11; refine Hid.out ?_))
      unfold Hid
      refine (clone_any _ bs _ hr (by omega)).mono ?_
      rintro e w1 ⟨v1, rfl, hown, hbel⟩
      cases hk : chk bs with
      | true =>
        go_wp2_with (first
          | (go_at_call 15; refine (zzcheck_ok _ bs _ hown.rd (by omega) hk).mono ?_; rintro e w2 ⟨rfl, rfl⟩)
          | (go_at_call 18; refine (short_any _ bs _ hown.rd (by omega)).mono ?_; rintro e w2 ⟨rfl, rfl⟩))
        go_ret
        exact ⟨rfl, hbel⟩
      | false =>
        go_wp2_with (go_at_call 15; refine Hid.out ?_)
        unfold Hid
        refine (zzcheck_bad _ bs _ hown.rd (by omega) hk).mono ?_
        rintro e w2 ⟨a, rfl, hbel2⟩
        have hr2 := hown.rd.below hbel2 (Nat.le_refl _)
        go_wp2_with (go_at_call 18; refine (short_any _ bs _ hr2 (by omega)).mono ?_; rintro e w3 ⟨rfl, rfl⟩)
        go_ret
        exact ⟨rfl, hbel.trans (hbel2.mono hbel.size)⟩
end Go.Proofs.Qxb6002406a
