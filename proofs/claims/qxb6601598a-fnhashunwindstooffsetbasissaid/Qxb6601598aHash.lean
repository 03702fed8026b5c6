/-
  The walk of layout.Hash (8).
-/
import Derived.Test.Qxb6601598aClone
import Derived.Test.Qxb6601598aPlain
namespace Go.Proofs.Qxb6601598a
open Go.RowKit

/-- A step as the walk spells it. -/
theorem step_walk (h c : Nat) (h1 : h < M64) (h2 : c < 256) : IntKind.u64.wrap (bits BinOp.xor IntKind.u64 (h : Int) (c : Int) * 1099511628211) = ((stepN h c : Nat) : Int) := by
  unfold M64 at h1
  rw [bits_xor_u64_nat h c h1 (by omega), IntKind.wrap_u64]
  unfold stepN fnvP M64
  rw [Int.natCast_emod, Int.natCast_mul]
  rfl

theorem basis_walk : ((hashL [] : Nat) : Int) = 14695981039346656037 := by
  rw [hashL_nil]
  unfold fnvB
  rfl

set_option maxHeartbeats 400000 in
set_option maxRecDepth 100000 in
theorem hash_pos (bs : List Int) (hby : ∀ x ∈ bs, 0 ≤ x ∧ x ≤ 255) (b off c : Nat) (w : World) (hc : ∀ j, j < bs.length → w.cell? ⟨b, off + j, none⟩ = some (.int .u8 (bs.getD j 0))) (hp : 0 < bs.length) (hl : bs.length ≤ 1048576) :
    Calls Try.prog 8 #[.slice (some ⟨b, off, none⟩) bs.length c] w fun e w' => e = .returned (.int .u64 ((hashL bs : Nat) : Int)) ∧ w = w' := by
  go_enter Try.func8, Try.ntmps8
  go_wp2
  go_loop [3, 8] (fun h i => ∃ k : Nat, k ≤ bs.length ∧ i = .int .i64 k ∧ h = .int .u64 ((hashL (bs.take k) : Nat) : Int)) (fun _ i => bs.length - (intOf i).toNat)
  case atStart => exact ⟨0, Nat.zero_le _, rfl, by rw [List.take_zero, basis_walk]⟩
  case round =>
    obtain ⟨k, hk, rfl, rfl⟩ := hrel
    by_cases hlt : k < bs.length
    · obtain ⟨x, hx⟩ : ∃ x : Nat, bs.getD k 0 = (x : Int) := by
        have := hby (bs.getD k 0) (by simp [List.getD, hlt])
        exact ⟨(bs.getD k 0).toNat, by omega⟩
      have hxb : x < 256 := by
        have := hby (bs.getD k 0) (by simp [List.getD, hlt])
        omega
      have ck : w.cell? ⟨b, off + k, none⟩ = some (.int .u8 (x : Int)) := by rw [← hx]; exact hc k hlt
      have hs := hash_take_succ bs k hlt
      have hlt64 := hashL_lt (bs.take k)
      obtain ⟨g, hg⟩ : ∃ g, g = hashL (bs.take k) := ⟨_, rfl⟩
      rw [← hg] at hs hlt64 ⊢
      have HS : Hid (((hashL (bs.take (k + 1)) : Nat) : Int) = IntKind.u64.wrap (bits BinOp.xor IntKind.u64 (g : Int) (x : Int) * 1099511628211)) := by
        show _ = _
        rw [step_walk g x hlt64 hxb, hs, hx, Int.toNat_natCast]
      clear hc hx hg hs hlt64
      go_wp2
      go_round
      case rel => exact ⟨k + 1, by omega, by go_num, by rw [HS.out]⟩
      case measure => simp [intOf]; omega
    · have HK : Hid (bs.take k = bs) := List.take_of_length_le (by omega)
      clear hc
      rw [HK.out]
      go_wp2
      go_ret
      exact ⟨rfl, rfl⟩
end Go.Proofs.Qxb6601598a
