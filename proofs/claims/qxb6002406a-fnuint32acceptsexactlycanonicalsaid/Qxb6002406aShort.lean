/-
  The walk of shortestTwosComplement (18), and that it answers as checkInteger does.
-/
import Derived.Test.Qxb6002406aChk
namespace Go.Proofs.Qxb6002406a
open Go.RowKit

/-- The octets ahead of the last k are the sign's octet. -/
def BadAt (bs : List Int) (k : Nat) : Prop := ∀ j, j < bs.length - k → bs.getD j 0 = if 128 ≤ bs.getD (bs.length - k) 0 then 255 else 0

theorem bad_chk (bs : List Int) (k : Nat) (h1 : 1 ≤ k) (h2 : k < bs.length) (h : BadAt bs k) : chk bs = false := by
  have h0 := h 0 (by omega)
  have hz : (bs.getD 0 0 = 0 ∧ bs.getD 1 0 < 128) ∨ (bs.getD 0 0 = 255 ∧ 128 ≤ bs.getD 1 0) := by
    by_cases hk : bs.length - k = 1
    · rw [hk] at h0
      split at h0 <;> omega
    · have h3 := h 1 (by omega)
      split at h0 <;> split at h3 <;> omega
  cases hc : chk bs with
  | false => rfl
  | true =>
    have := (chk_true hc).2 (by omega)
    rcases hz with hz | hz
    · exact absurd hz this.1
    · exact absurd hz this.2

theorem chk_all (bs : List Int) (h0 : 0 < bs.length) (h : ∀ k, 1 ≤ k → k < bs.length → ¬ BadAt bs k) : chk bs = true := by
  cases hc : chk bs with
  | true => rfl
  | false =>
    rcases chk_false hc with h1 | ⟨h1, h2⟩
    · omega
    · refine absurd ?_ (h (bs.length - 1) (by omega) (by omega))
      intro j hj
      have hj0 : j = 0 := by omega
      subst hj0
      rw [show bs.length - (bs.length - 1) = 1 by omega]
      split <;> omega

set_option maxHeartbeats 1000000 in
set_option maxRecDepth 100000 in
theorem short_pos (bs : List Int) (b off c : Nat) (w : World) (hc : ∀ j, j < bs.length → w.cell? ⟨b, off + j, none⟩ = some (.int .u8 (bs.getD j 0))) (hp : 0 < bs.length) (hl : bs.length ≤ 1000000) :
    Calls Try.prog 18 #[.slice (some ⟨b, off, none⟩) bs.length c] w fun e w' => e = .returned (.bool (chk bs)) ∧ w = w' := by
  have hne : ((bs.length : Int) == 0) = false := beq_eq_false_iff_ne.2 (by omega)
  go_enter Try.func18, Try.ntmps18
  go_wp2
  go_loop [4] (fun i => ∃ k : Nat, 1 ≤ k ∧ k ≤ bs.length ∧ i = .int .i64 k ∧ Hid (∀ q, 1 ≤ q → q < k → ¬ BadAt bs q)) (fun i => bs.length - (intOf i).toNat)
  case atStart => exact ⟨1, Nat.le_refl _, by omega, rfl, fun q h1 h2 => by omega⟩
  case round =>
    obtain ⟨k, hk1, hk, rfl, HB⟩ := hrel
    by_cases hlt : k < bs.length
    · obtain ⟨y, hy⟩ : ∃ y, y = bs.getD (bs.length - k) 0 := ⟨_, rfl⟩
      have cy : w.cell? ⟨b, off + (bs.length - k), none⟩ = some (.int .u8 y) := by rw [hy]; exact hc _ (by omega)
      have HY : Hid (y = bs.getD (bs.length - k) 0) := hy
      clear hy
      by_cases h128 : 128 ≤ y
      · have HS : Hid ((if 128 ≤ bs.getD (bs.length - k) 0 then (255 : Int) else 0) = 255) := by rw [← HY.out]; exact if_pos h128
        go_wp2
        go_loop [6, 7] (fun a i => ∃ j : Nat, j ≤ bs.length - k ∧ i = .int .i64 j ∧ a = .bool true ∧ Hid (∀ q, q < j → bs.getD q 0 = 255)) (fun _ i => bs.length - k - (intOf i).toNat)
        case atStart => exact ⟨0, Nat.zero_le _, rfl, rfl, fun q hq => by omega⟩
        case round =>
          obtain ⟨j, hj, rfl, rfl, HJ⟩ := hrel
          by_cases hjl : j < bs.length - k
          · obtain ⟨z, hz⟩ : ∃ z, z = bs.getD j 0 := ⟨_, rfl⟩
            have cz : w.cell? ⟨b, off + j, none⟩ = some (.int .u8 z) := by rw [hz]; exact hc _ (by omega)
            have hji : (j : Int) < (bs.length : Int) := by omega
            have HZ : Hid (z = bs.getD j 0) := hz
            clear hz hc
            by_cases hzs : z = 255
            · have hzb : (z != 255) = false := by rw [hzs]; rfl
              have HJ2 : Hid (∀ q, q < j + 1 → bs.getD q 0 = 255) := by
                intro q hq
                by_cases hqj : q = j
                · rw [hqj, ← HZ.out, hzs]
                · exact HJ.out q (by omega)
              clear hzs
              go_wp2
              go_round
              case rel => exact ⟨j + 1, by omega, by go_num, rfl, HJ2⟩
              case measure => simp [intOf]; omega
            · have hzb : (z != 255) = true := by simp [hzs]
              have HB2 : Hid (∀ q, 1 ≤ q → q < k + 1 → ¬ BadAt bs q) := by
                intro q h1 h2
                by_cases hqk : q = k
                · intro hbad
                  rw [hqk] at hbad
                  have := hbad j hjl
                  rw [HS.out, ← HZ.out] at this
                  exact hzs this
                · exact HB.out q h1 (by omega)
              clear hzs
              go_wp2
              go_round
              case rel => exact ⟨k + 1, by omega, by omega, by go_num, HB2⟩
              case measure => simp [intOf]; omega
          · have HE : Hid (chk bs = false) := bad_chk bs k hk1 hlt (fun q hq => by rw [HS.out]; exact HJ.out q (by omega))
            clear hc
            go_wp2
            go_ret
            rw [HE.out]
            exact ⟨rfl, rfl⟩
      · have HS : Hid ((if 128 ≤ bs.getD (bs.length - k) 0 then (255 : Int) else 0) = 0) := by rw [← HY.out]; exact if_neg h128
        go_wp2
        go_loop [6, 7] (fun a i => ∃ j : Nat, j ≤ bs.length - k ∧ i = .int .i64 j ∧ a = .bool true ∧ Hid (∀ q, q < j → bs.getD q 0 = 0)) (fun _ i => bs.length - k - (intOf i).toNat)
        case atStart => exact ⟨0, Nat.zero_le _, rfl, rfl, fun q hq => by omega⟩
        case round =>
          obtain ⟨j, hj, rfl, rfl, HJ⟩ := hrel
          by_cases hjl : j < bs.length - k
          · obtain ⟨z, hz⟩ : ∃ z, z = bs.getD j 0 := ⟨_, rfl⟩
            have cz : w.cell? ⟨b, off + j, none⟩ = some (.int .u8 z) := by rw [hz]; exact hc _ (by omega)
            have hji : (j : Int) < (bs.length : Int) := by omega
            have HZ : Hid (z = bs.getD j 0) := hz
            clear hz hc
            by_cases hzs : z = 0
            · have hzb : (z != 0) = false := by rw [hzs]; rfl
              have HJ2 : Hid (∀ q, q < j + 1 → bs.getD q 0 = 0) := by
                intro q hq
                by_cases hqj : q = j
                · rw [hqj, ← HZ.out, hzs]
                · exact HJ.out q (by omega)
              clear hzs
              go_wp2
              go_round
              case rel => exact ⟨j + 1, by omega, by go_num, rfl, HJ2⟩
              case measure => simp [intOf]; omega
            · have hzb : (z != 0) = true := by simp [hzs]
              have HB2 : Hid (∀ q, 1 ≤ q → q < k + 1 → ¬ BadAt bs q) := by
                intro q h1 h2
                by_cases hqk : q = k
                · intro hbad
                  rw [hqk] at hbad
                  have := hbad j hjl
                  rw [HS.out, ← HZ.out] at this
                  exact hzs this
                · exact HB.out q h1 (by omega)
              clear hzs
              go_wp2
              go_round
              case rel => exact ⟨k + 1, by omega, by omega, by go_num, HB2⟩
              case measure => simp [intOf]; omega
          · have HE : Hid (chk bs = false) := bad_chk bs k hk1 hlt (fun q hq => by rw [HS.out]; exact HJ.out q (by omega))
            clear hc
            go_wp2
            go_ret
            rw [HE.out]
            exact ⟨rfl, rfl⟩
    · have HE : Hid (chk bs = true) := chk_all bs hp (fun q h1 h2 => HB.out q h1 (by omega))
      clear hc
      go_wp2
      go_ret
      rw [HE.out]
      exact ⟨rfl, rfl⟩

set_option maxHeartbeats 400000 in
theorem short_any (v : Value) (bs : List Int) (w : World) (hv : Rd w v bs) (hl : bs.length ≤ 1000000) :
    Calls Try.prog 18 #[v] w fun e w' => e = .returned (.bool (chk bs)) ∧ w = w' := by
  rcases hv with ⟨ao, c, rfl, rfl, hn, hcm⟩ | ⟨b, off, c, rfl, hp, hlc, hcm, hb, hc⟩
  · go_enter Try.func18, Try.ntmps18
    go_wp2
    go_ret
    exact ⟨rfl, rfl⟩
  · exact short_pos bs b off c w hc hp hl

set_option maxHeartbeats 400000 in
theorem zz17_yes (ao : Option Addr) (n c : Nat) (w : World) (h : n ≤ 1048576) : Calls Try.prog 17 #[.slice ao n c] w fun e w' => e = .returned (.bool true) ∧ w = w' := by
  go_enter Try.func17, Try.ntmps17
  go_wp2
  go_ret
  exact ⟨rfl, rfl⟩

set_option maxHeartbeats 400000 in
theorem zz17_no (ao : Option Addr) (n c : Nat) (w : World) (h : 1048576 < n) : Calls Try.prog 17 #[.slice ao n c] w fun e w' => e = .returned (.bool false) ∧ w = w' := by
  go_enter Try.func17, Try.ntmps17
  go_wp2
  go_ret
  exact ⟨rfl, rfl⟩
end Go.Proofs.Qxb6002406a
