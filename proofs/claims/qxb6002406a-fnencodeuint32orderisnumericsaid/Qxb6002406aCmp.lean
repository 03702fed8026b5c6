/-
  The walk of compareBytes (function 16).
-/
import Derived.Test.Qxb6002406aRows
import Derived.Test.Qxb6002406aBase
import Derived.Test.Qxb6002406aPlain
import Derived.BigQuiet
import Derived.Deep.QuietTactic
namespace Go.Proofs.Qxb6002406a
open Go.RowKit

theorem ret_int {k : IntKind} {a b : Int} (h : a = b) : Ending.returned (.int k a) = .returned (.int k b) := by rw [h]

set_option maxHeartbeats 1000000 in
set_option maxRecDepth 100000 in
theorem cmp_any (A B : List Int) (ba oa ca bb ob cb : Nat) (w : World) (hA : 0 < A.length) (hB : 0 < B.length) (hlA : A.length ≤ 1000000) (hlB : B.length ≤ 1000000)
    (hcA : ∀ j, j < A.length → w.cell? ⟨ba, oa + j, none⟩ = some (.int .u8 (A.getD j 0))) (hcB : ∀ j, j < B.length → w.cell? ⟨bb, ob + j, none⟩ = some (.int .u8 (B.getD j 0))) :
    Calls Try.prog 16 #[.slice (some ⟨ba, oa, none⟩) A.length ca, .slice (some ⟨bb, ob, none⟩) B.length cb] w fun e w' => e = .returned (.int .i64 (cmp A B)) ∧ ∃ n, w' = w.drewN n := by
  by_cases hlt : B.length < A.length
  · have hd : decide ((B.length : Int) < (A.length : Int)) = true := by simp; omega
    go_enter Try.func16, Try.ntmps16
    go_wp2
    go_loopw [6] (fun i wr => ∃ k : Nat, k ≤ B.length ∧ i = .int .i64 k ∧ Hid (cmp A B = cmp (A.drop k) (B.drop k)) ∧ ∃ n, wr = w.drewN n) (fun i _ => B.length - (intOf i).toNat)
    case atStart => exact ⟨0, Nat.zero_le _, rfl, by simp [Hid], 0, rfl⟩
    case round =>
      obtain ⟨k, hk, rfl, HC, n, rfl⟩ := hrel
      by_cases hkl : k < B.length
      · obtain ⟨x, hx⟩ : ∃ x, x = A.getD k 0 := ⟨_, rfl⟩
        obtain ⟨y, hy⟩ : ∃ y, y = B.getD k 0 := ⟨_, rfl⟩
        have h1 : w.cell? ⟨ba, oa + k, none⟩ = some (.int .u8 x) := by rw [hx]; exact hcA k (by omega)
        have h2 : w.cell? ⟨bb, ob + k, none⟩ = some (.int .u8 y) := by rw [hy]; exact hcB k (by omega)
        have hkA : (k : Int) < (A.length : Int) := by omega
        have hkB : (k : Int) < (B.length : Int) := by omega
        have HX : Hid (x = A.getD k 0) := hx
        have HY : Hid (y = B.getD k 0) := hy
        clear hx hy hcA hcB
        by_cases c1 : x < y
        · have HE : Hid (cmp A B = -1) := by rw [HX.out, HY.out] at c1; exact HC.out.trans (cmp_lt A B k (by omega) (by omega) c1)
          go_wp2
          go_quiet (fail)
          go_wp2
          go_ret
          exact ⟨ret_int HE.out.symm, by simp only [World.drewN_drewN]; exact ⟨_, rfl⟩⟩
        · by_cases c2 : y < x
          · have HE : Hid (cmp A B = 1) := by rw [HX.out, HY.out] at c1 c2; exact HC.out.trans (cmp_gt A B k (by omega) (by omega) c1 c2)
            go_wp2
            go_quiet (fail)
            go_wp2
            go_quiet (fail)
            go_wp2
            go_ret
            exact ⟨ret_int HE.out.symm, by simp only [World.drewN_drewN]; exact ⟨_, rfl⟩⟩
          · have HE : Hid (cmp A B = cmp (A.drop (k + 1)) (B.drop (k + 1))) := by rw [HX.out, HY.out] at c1 c2; exact HC.out.trans (cmp_step A B k (by omega) (by omega) c1 c2)
            go_wp2
            go_quiet (fail)
            go_wp2
            go_quiet (fail)
            go_wp2
            go_roundw
            case rel => exact ⟨k + 1, by omega, by go_num, HE, _, rfl⟩
            case measure => simp [intOf]; omega
      · have HE : Hid (cmp A B = if A.length < B.length then -1 else if B.length < A.length then 1 else 0) := HC.out.trans (cmp_end A B k (by omega) (by omega) (by omega))
        clear hcA hcB
        go_wp2
        go_ret
        exact ⟨ret_int (by rw [HE.out, if_neg (by omega), if_pos hlt]), _, rfl⟩
  · have hd : decide ((B.length : Int) < (A.length : Int)) = false := by simp; omega
    go_enter Try.func16, Try.ntmps16
    go_wp2
    go_loopw [6] (fun i wr => ∃ k : Nat, k ≤ A.length ∧ i = .int .i64 k ∧ Hid (cmp A B = cmp (A.drop k) (B.drop k)) ∧ ∃ n, wr = w.drewN n) (fun i _ => A.length - (intOf i).toNat)
    case atStart => exact ⟨0, Nat.zero_le _, rfl, by simp [Hid], 0, rfl⟩
    case round =>
      obtain ⟨k, hk, rfl, HC, n, rfl⟩ := hrel
      by_cases hkl : k < A.length
      · obtain ⟨x, hx⟩ : ∃ x, x = A.getD k 0 := ⟨_, rfl⟩
        obtain ⟨y, hy⟩ : ∃ y, y = B.getD k 0 := ⟨_, rfl⟩
        have h1 : w.cell? ⟨ba, oa + k, none⟩ = some (.int .u8 x) := by rw [hx]; exact hcA k (by omega)
        have h2 : w.cell? ⟨bb, ob + k, none⟩ = some (.int .u8 y) := by rw [hy]; exact hcB k (by omega)
        have hkA : (k : Int) < (A.length : Int) := by omega
        have hkB : (k : Int) < (B.length : Int) := by omega
        have HX : Hid (x = A.getD k 0) := hx
        have HY : Hid (y = B.getD k 0) := hy
        clear hx hy hcA hcB
        by_cases c1 : x < y
        · have HE : Hid (cmp A B = -1) := by rw [HX.out, HY.out] at c1; exact HC.out.trans (cmp_lt A B k (by omega) (by omega) c1)
          go_wp2
          go_quiet (fail)
          go_wp2
          go_ret
          exact ⟨ret_int HE.out.symm, by simp only [World.drewN_drewN]; exact ⟨_, rfl⟩⟩
        · by_cases c2 : y < x
          · have HE : Hid (cmp A B = 1) := by rw [HX.out, HY.out] at c1 c2; exact HC.out.trans (cmp_gt A B k (by omega) (by omega) c1 c2)
            go_wp2
            go_quiet (fail)
            go_wp2
            go_quiet (fail)
            go_wp2
            go_ret
            exact ⟨ret_int HE.out.symm, by simp only [World.drewN_drewN]; exact ⟨_, rfl⟩⟩
          · have HE : Hid (cmp A B = cmp (A.drop (k + 1)) (B.drop (k + 1))) := by rw [HX.out, HY.out] at c1 c2; exact HC.out.trans (cmp_step A B k (by omega) (by omega) c1 c2)
            go_wp2
            go_quiet (fail)
            go_wp2
            go_quiet (fail)
            go_wp2
            go_roundw
            case rel => exact ⟨k + 1, by omega, by go_num, HE, _, rfl⟩
            case measure => simp [intOf]; omega
      · have HE : Hid (cmp A B = if A.length < B.length then -1 else if B.length < A.length then 1 else 0) := HC.out.trans (cmp_end A B k (by omega) (by omega) (by omega))
        clear hcA hcB
        by_cases hl2 : A.length < B.length
        · go_wp2
          go_ret
          exact ⟨ret_int (by rw [HE.out, if_pos hl2]), _, rfl⟩
        · go_wp2
          go_ret
          exact ⟨ret_int (by rw [HE.out, if_neg hl2, if_neg hlt]), _, rfl⟩

end Go.Proofs.Qxb6002406a
