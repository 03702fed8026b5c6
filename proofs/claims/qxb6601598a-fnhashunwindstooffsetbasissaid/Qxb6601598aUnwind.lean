/-
  The walk of FnHashUnwindsToOffsetBasis (3).
-/
import Derived.Test.Qxb6601598aHash
import Derived.Test.Qxb6601598aArg
namespace Go.Proofs.Qxb6601598a
open Go.RowKit

theorem Rd.form {w : World} {v : Value} {bs : List Int} (h : Rd w v bs) : ∃ ao c, v = .slice ao bs.length c := by
  rcases h with ⟨ao, c, h, rfl, _⟩ | ⟨b, off, c, h, _⟩
  · exact ⟨ao, c, h⟩
  · exact ⟨_, c, h⟩

/-- Newton's iteration, as the walk spells it. -/
def newton : Nat → Int
  | 0 => 1099511628211
  | k + 1 => IntKind.u64.wrap (newton k * IntKind.u64.wrap (2 - IntKind.u64.wrap (1099511628211 * newton k)))

theorem newton_six : newton 6 = 14886173955864302971 := by decide +kernel

set_option maxHeartbeats 400000 in
set_option maxRecDepth 100000 in
theorem inv_any (w : World) : Calls Try.prog 7 #[] w fun e w' => e = .returned (.int .u64 (newton 6)) ∧ w = w' := by
  go_enter Try.func7, Try.ntmps7
  go_wp2
  go_loop [1, 2] (fun x i => ∃ k : Nat, k ≤ 6 ∧ i = .int .i64 k ∧ x = .int .u64 (newton k)) (fun _ i => 6 - (intOf i).toNat)
  case atStart => exact ⟨0, Nat.zero_le _, rfl, rfl⟩
  case round =>
    obtain ⟨k, hk, rfl, rfl⟩ := hrel
    have hs : newton (k + 1) = IntKind.u64.wrap (newton k * IntKind.u64.wrap (2 - IntKind.u64.wrap (1099511628211 * newton k))) := rfl
    obtain ⟨g, hg⟩ : ∃ g, g = newton k := ⟨_, rfl⟩
    rw [← hg] at hs ⊢
    have HS : Hid (newton (k + 1) = IntKind.u64.wrap (g * IntKind.u64.wrap (2 - IntKind.u64.wrap (1099511628211 * g)))) := hs
    have HG : Hid (g = newton k) := hg
    clear hs hg
    by_cases hlt : k < 6
    · go_wp2
      go_round
      case rel => exact ⟨k + 1, by omega, by go_num, by rw [HS.out]⟩
      case measure => simp [intOf]; omega
    · have hk6 : k = 6 := by omega
      subst hk6
      go_wp2
      go_ret
      rw [HG.out]
      exact ⟨rfl, rfl⟩

theorem newton_inv : (IntKind.u64.wrap (newton 6 * 1099511628211) != 1) = false := by decide +kernel

set_option maxHeartbeats 400000 in
set_option maxRecDepth 100000 in
theorem hash_none (ao : Option Addr) (c : Nat) (w : World) : Calls Try.prog 8 #[.slice ao 0 c] w fun e w' => e = .returned (.int .u64 14695981039346656037) ∧ w = w' := by
  go_enter Try.func8, Try.ntmps8
  go_wp2
  refine wp_loop_rounds 1 ?_
  rw [rounds_succ]
  go_wp2
  go_ret
  exact ⟨rfl, rfl⟩

/-- A round of the unwinding, as the walk spells it. -/
theorem unwind_walk (bs : List Int) (hby : ∀ x ∈ bs, 0 ≤ x ∧ x ≤ 255) (k x : Nat) (h : k < bs.length) (hx : bs.getD k 0 = (x : Int)) (J : Int) (hJ : J = 14886173955864302971) :
    bits BinOp.xor IntKind.u64 (IntKind.u64.wrap (((hashL (bs.take (k + 1)) : Nat) : Int) * J)) (x : Int) = ((hashL (bs.take k) : Nat) : Int) := by
  have hb := hby (bs.getD k 0) (by simp [List.getD, h])
  have hu := hash_unwind bs hby k h
  rw [hx, Int.toNat_natCast] at hu
  rw [hJ, IntKind.wrap_u64]
  have e : ((hashL (bs.take (k + 1)) : Nat) : Int) * 14886173955864302971 % 18446744073709551616 = ((hashL (bs.take (k + 1)) * fnvI % M64 : Nat) : Int) := by
    unfold fnvI M64
    rw [Int.natCast_emod, Int.natCast_mul]
    rfl
  have hlt : hashL (bs.take (k + 1)) * fnvI % M64 < M64 := Nat.mod_lt _ M64_pos
  have hlt2 : hashL (bs.take (k + 1)) * fnvI % M64 < 18446744073709551616 := by unfold M64 at hlt ⊢; exact hlt
  rw [e, bits_xor_u64_nat _ _ hlt2 (by omega), hu]

set_option maxHeartbeats 400000 in
theorem zz5_yes (ao : Option Addr) (n c : Nat) (w : World) (h : n ≤ 1048576) : Calls Try.prog 5 #[.slice ao n c] w fun e w' => e = .returned (.bool true) ∧ w = w' := by
  go_enter Try.func5, Try.ntmps5
  go_wp2
  go_ret
  exact ⟨rfl, rfl⟩

set_option maxHeartbeats 400000 in
theorem zz5_no (ao : Option Addr) (n c : Nat) (w : World) (h : 1048576 < n) : Calls Try.prog 5 #[.slice ao n c] w fun e w' => e = .returned (.bool false) ∧ w = w' := by
  go_enter Try.func5, Try.ntmps5
  go_wp2
  go_ret
  exact ⟨rfl, rfl⟩

set_option maxHeartbeats 400000 in
set_option maxRecDepth 100000 in
theorem unwindMain (ao : Option Addr) (len cap : Nat) (bs : List Int) (hby : ∀ x ∈ bs, 0 ≤ x ∧ x ≤ 255) (w : World) (hr : Rd w (.slice ao len cap) bs) (hlen : bs.length = len) (hl : len ≤ 1048576) :
    Calls Try.prog 3 #[.slice ao len cap] w fun e w' => e = .returned (.bool true) ∧ Below w.heap.size w w' := by
  have HL : Hid (bs.length = len) := hlen
  have hbl : bs.length ≤ 1048576 := by omega
  clear hlen
  have hni := newton_inv
  have hinv := fun w => inv_any w
  obtain ⟨J, hJ⟩ : ∃ J, J = newton 6 := ⟨_, rfl⟩
  rw [← hJ] at hni hinv
  have HJ : Hid (J = 14886173955864302971) := hJ.trans newton_six
  have HI : Hid (∀ w, Calls Try.prog 7 #[] w fun e w' => e = .returned (.int .u64 J) ∧ w = w') := hinv
  clear hJ hinv
  go_enter Try.func3, Try.ntmps3
  go_wp2_with (first
    | (go_at_call 5; refine (zz5_yes _ _ _ _ (by omega)).mono ?_; rintro e w1 ⟨rfl, rfl⟩)
    | (go_at_call 6; refine Hid.out ?_))
  unfold Hid
  refine (clone_any _ bs _ hr (by omega)).mono ?_
  rintro e w1 ⟨v1, rfl, hown1, hbel1⟩
  go_wp2_with (first
    | (go_at_call 7; refine (HI.out _).mono ?_; rintro e w2 ⟨rfl, rfl⟩)
    | (go_at_call 8; refine Hid.out ?_))
  unfold Hid
  by_cases hz : bs.length = 0
  · obtain ⟨a1, c1, hv⟩ := hown1.rd.form
    rw [hz] at hv
    subst hv
    clear hown1 hr
    refine (hash_none _ _ _).mono ?_
    rintro e w2 ⟨rfl, rfl⟩
    go_wp2
    refine wp_loop_rounds 1 ?_
    rw [rounds_succ]
    go_wp2
    go_ret
    exact ⟨rfl, hbel1⟩
  · obtain ⟨b, off, c, hv, _, _, _, hc⟩ := hown1.rd.pos (by omega)
    subst hv
    clear hown1 hr
    refine (hash_pos bs hby b off c _ hc (by omega) (by omega)).mono ?_
    rintro e w2 ⟨rfl, rfl⟩
    go_wp2
    go_loop [4, 5] (fun h i => ∃ k : Nat, k ≤ bs.length ∧ i = .int .i64 ((k : Int) - 1) ∧ h = .int .u64 ((hashL (bs.take k) : Nat) : Int)) (fun _ i => (intOf i + 1).toNat)
    case atStart => exact ⟨bs.length, Nat.le_refl _, rfl, by rw [List.take_length]⟩
    case round =>
      obtain ⟨k, hk, rfl, rfl⟩ := hrel
      cases k with
      | zero =>
        have hq : (((hashL (bs.take 0) : Nat) : Int) == 14695981039346656037) = true := by rw [List.take_zero, basis_walk]; decide
        obtain ⟨q, hqq⟩ : ∃ q, q = ((hashL (bs.take 0) : Nat) : Int) := ⟨_, rfl⟩
        rw [← hqq] at hq ⊢
        clear hqq hc
        go_wp2
        go_ret
        exact ⟨rfl, hbel1⟩
      | succ j =>
        obtain ⟨x, hx⟩ : ∃ x : Nat, bs.getD j 0 = (x : Int) := by
          have := hby (bs.getD j 0) (by simp [List.getD, show j < bs.length by omega])
          exact ⟨(bs.getD j 0).toNat, by omega⟩
        have hxb : x < 256 := by
          have := hby (bs.getD j 0) (by simp [List.getD, show j < bs.length by omega])
          omega
        have ck : w1.cell? ⟨b, off + j, none⟩ = some (.int .u8 (x : Int)) := by rw [← hx]; exact hc j (by omega)
        have hu := unwind_walk bs hby j x (by omega) hx J HJ.out
        obtain ⟨g, hg⟩ : ∃ g, g = ((hashL (bs.take (j + 1)) : Nat) : Int) := ⟨_, rfl⟩
        rw [← hg] at hu ⊢
        have HU : Hid (((hashL (bs.take j) : Nat) : Int) = bits BinOp.xor IntKind.u64 (IntKind.u64.wrap (g * J)) (x : Int)) := hu.symm
        rw [show (((j + 1 : Nat) : Int) - 1) = (j : Int) by omega]
        have hjl : (j : Int) < (bs.length : Int) := by omega
        clear hc hx hu hg
        go_wp2
        go_round
        case rel => exact ⟨j, by omega, rfl, by rw [HU.out]⟩
        case measure => simp [intOf]

set_option maxHeartbeats 400000 in
set_option maxRecDepth 100000 in
theorem unwindWalk (ao : Option Addr) (len cap : Nat) (bs : List Int) (hby : ∀ x ∈ bs, 0 ≤ x ∧ x ≤ 255) (w : World) (hr : Rd w (.slice ao len cap) bs) (hlen : bs.length = len) (hmax : len ≤ maxLen) :
    Calls Try.prog 3 #[.slice ao len cap] w fun e w' => e = .returned (.bool true) ∧ Below w.heap.size w w' := by
  unfold maxLen at hmax
  by_cases h20 : 1048576 < len
  · go_enter Try.func3, Try.ntmps3
    go_wp2_with (go_at_call 5; refine (zz5_no _ _ _ _ h20).mono ?_; rintro e w1 ⟨rfl, rfl⟩)
    go_ret
    exact ⟨rfl, Below.refl _ _⟩
  exact unwindMain ao len cap bs hby w hr hlen (by omega)
end Go.Proofs.Qxb6601598a
