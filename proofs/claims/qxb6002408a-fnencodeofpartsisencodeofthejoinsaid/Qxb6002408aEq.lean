/-
  The walk of zzSameBytes (8).
-/
import Derived.Test.Qxb6002408aRows
import Derived.Test.Qxb6002408aBase
import Derived.Test.Qxb6002408aEncode
import Derived.BigQuiet
import Derived.Deep.QuietTactic
namespace Go.Proofs.Qxb6002408a
open Go.RowKit

theorem Rd.pos {w : World} {v : Value} {bs : List Int} (h : Rd w v bs) (hp : 0 < bs.length) :
    ∃ b off c, v = .slice (some ⟨b, off, none⟩) bs.length c ∧ bs.length ≤ c ∧ c ≤ maxLen ∧ b < w.heap.size ∧ ∀ j, j < bs.length → w.cell? ⟨b, off + j, none⟩ = some (.int .u8 (bs.getD j 0)) := by
  rcases h with ⟨_, _, _, rfl, _⟩ | ⟨b, off, c, h1, h2, h3, h4, h5, h6⟩
  · simp at hp
  · exact ⟨b, off, c, h1, h3, h4, h5, h6⟩

/-- Two lists are one. -/
def eqB (A B : List Int) : Bool := decide (A = B)

theorem eqB_yes {A B : List Int} (h : A = B) : eqB A B = true := by simp [eqB, h]
theorem eqB_no {A B : List Int} (h : ¬ A = B) : eqB A B = false := by simp [eqB, h]

theorem list_ext {A B : List Int} (hl : A.length = B.length) (h : ∀ j, j < A.length → A.getD j 0 = B.getD j 0) : A = B := by
  apply List.ext_getElem hl
  intro j h1 h2
  have := h j h1
  simpa [List.getD, h1, h2] using this

set_option maxHeartbeats 1000000 in
set_option maxRecDepth 100000 in
theorem eq_pos (A B : List Int) (ba oa ca bb ob cb : Nat) (w : World) (hAB : A.length = B.length) (hp : 0 < A.length) (hlA : A.length ≤ 10000000)
    (hcA : ∀ j, j < A.length → w.cell? ⟨ba, oa + j, none⟩ = some (.int .u8 (A.getD j 0))) (hcB : ∀ j, j < B.length → w.cell? ⟨bb, ob + j, none⟩ = some (.int .u8 (B.getD j 0))) :
    Calls Try.prog 8 #[.slice (some ⟨ba, oa, none⟩) A.length ca, .slice (some ⟨bb, ob, none⟩) A.length cb] w fun e w' => e = .returned (.bool (eqB A B)) ∧ ∃ n, w' = w.drewN n := by
  have HAB : Hid (A.length = B.length) := hAB
  rw [← hAB] at hcB
  clear hAB
  go_enter Try.func8, Try.ntmps8
  go_wp2
  go_loopw [5] (fun i wr => ∃ k : Nat, k ≤ A.length ∧ i = .int .i64 k ∧ Hid (∀ j, j < k → A.getD j 0 = B.getD j 0) ∧ ∃ n, wr = w.drewN n) (fun i _ => A.length - (intOf i).toNat)
  case atStart => exact ⟨0, Nat.zero_le _, rfl, fun j hj => by omega, 0, rfl⟩
  case round =>
    obtain ⟨k, hk, rfl, HC, n, rfl⟩ := hrel
    by_cases hkl : k < A.length
    · obtain ⟨x, hx⟩ : ∃ x, x = A.getD k 0 := ⟨_, rfl⟩
      obtain ⟨y, hy⟩ : ∃ y, y = B.getD k 0 := ⟨_, rfl⟩
      have h1 : w.cell? ⟨ba, oa + k, none⟩ = some (.int .u8 x) := by rw [hx]; exact hcA k (by omega)
      have h2 : w.cell? ⟨bb, ob + k, none⟩ = some (.int .u8 y) := by rw [hy]; exact hcB k (by omega)
      have hkA : (k : Int) < (A.length : Int) := by omega
      have HX : Hid (x = A.getD k 0) := hx
      have HY : Hid (y = B.getD k 0) := hy
      clear hx hy hcA hcB
      by_cases c1 : x = y
      · have c2 : (x != y) = false := by simp [c1]
        have HE : Hid (∀ j, j < k + 1 → A.getD j 0 = B.getD j 0) := by
          intro j hj
          by_cases hjk : j = k
          · rw [hjk, ← HX.out, ← HY.out, c1]
          · exact HC.out j (by omega)
        clear c1
        go_wp2
        go_quiet (fail)
        go_wp2
        go_roundw
        case rel => exact ⟨k + 1, by omega, by go_num, HE, _, rfl⟩
        case measure => simp [intOf]; omega
      · have c2 : (x != y) = true := by simp [c1]
        have HE : Hid (eqB A B = false) := eqB_no (fun h => c1 (by rw [HX.out, HY.out, h]))
        clear c1
        go_wp2
        go_quiet (fail)
        go_wp2
        go_ret
        rw [HE.out]
        exact ⟨rfl, by simp only [World.drewN_drewN]; exact ⟨_, rfl⟩⟩
    · have HE : Hid (eqB A B = true) := eqB_yes (list_ext HAB.out (fun j hj => HC.out j (by omega)))
      clear hcA hcB
      go_wp2
      go_ret
      rw [HE.out]
      exact ⟨rfl, _, rfl⟩

set_option maxHeartbeats 400000 in
set_option maxRecDepth 100000 in
theorem eq_rd (x y : Value) (A B : List Int) (w : World) (hx : Rd w x A) (hy : Rd w y B) (hlA : A.length ≤ 10000000) (hlB : B.length ≤ 10000000) :
    Calls Try.prog 8 #[x, y] w fun e w' => e = .returned (.bool (eqB A B)) ∧ Below w.heap.size w w' := by
  obtain ⟨a1, c1, rfl⟩ := hx.form
  obtain ⟨a2, c2, rfl⟩ := hy.form
  by_cases hAB : A.length = B.length
  · by_cases hp : 0 < A.length
    · obtain ⟨ba, oa, ca, e1, _, _, _, hcA⟩ := hx.pos hp
      obtain ⟨bb, ob, cb, e2, _, _, _, hcB⟩ := hy.pos (by omega)
      rw [e1, e2, ← hAB]
      refine (eq_pos A B ba oa ca bb ob cb w hAB hp hlA hcA hcB).mono ?_
      rintro e w' ⟨rfl, n, rfl⟩
      exact ⟨rfl, below_drewN (Below.refl _ _) n⟩
    · have hA : A = [] := List.eq_nil_of_length_eq_zero (by omega)
      have hB : B = [] := List.eq_nil_of_length_eq_zero (by omega)
      subst hA
      subst hB
      go_enter Try.func8, Try.ntmps8
      go_wp2
      refine wp_loop_rounds 1 ?_
      rw [rounds_succ]
      go_wp2
      go_ret
      exact ⟨rfl, Below.refl _ _⟩
  · have hne : ((A.length : Int) != (B.length : Int)) = true := by rw [bne_iff_ne]; omega
    have HE : Hid (eqB A B = false) := eqB_no (fun h => hAB (by rw [h]))
    clear hAB
    go_enter Try.func8, Try.ntmps8
    go_wp2
    go_ret
    rw [HE.out]
    exact ⟨rfl, Below.refl _ _⟩
end Go.Proofs.Qxb6002408a
