/-
  The walk of der.Uint32 (12).
-/
import Derived.Test.Qxb6002406aChk
import Derived.Test.Qxb6002406aPlain
namespace Go.Proofs.Qxb6002406a
open Go.RowKit

theorem or_shift32 (v y : Int) (h0 : 0 ≤ v) (h1 : v < 16777216) (h2 : 0 ≤ y) (h3 : y ≤ 255) : bits .or .u32 (v * 256) y = v * 256 + y := by
  obtain ⟨n, rfl⟩ := Int.eq_ofNat_of_zero_le h0
  obtain ⟨m, rfl⟩ := Int.eq_ofNat_of_zero_le h2
  have e : ((n : Int) * 256) = ((n * 256 : Nat) : Int) := by omega
  rw [e, u32_or_nat _ _ (by omega) (by omega), nat_join8 _ _ (by omega) (by omega)]
  omega

set_option maxHeartbeats 400000 in
set_option maxRecDepth 100000 in
theorem u32_plain (bs : List Int) (b off c : Nat) (w : World) (hc : ∀ j, j < bs.length → w.cell? ⟨b, off + j, none⟩ = some (.int .u8 (bs.getD j 0))) (hl : bs.length ≤ 4) (hp : 0 < bs.length)
    (hby : Bytes bs) (hk : chk bs = true) (hx128 : bs.getD 0 0 < 128) (hx0 : ¬ bs.getD 0 0 = 0) (hlc : bs.length ≤ c) (hcm : c ≤ maxLen) (hb : b < w.heap.size) :
    Calls Try.prog 12 #[.slice (some ⟨b, off, none⟩) bs.length c] w fun e w' => e = .returned (.tuple #[.int .u32 (val bs), .nilIface]) ∧ w = w' := by
  obtain ⟨x, hx⟩ : ∃ x, x = bs.getD 0 0 := ⟨_, rfl⟩
  have c0 : w.cell? ⟨b, off, none⟩ = some (.int .u8 x) := by rw [hx]; exact hc 0 hp
  have hr : Rd w (.slice (some ⟨b, off, none⟩) bs.length c) bs := .inr ⟨b, off, c, rfl, hp, hlc, hcm, hb, hc⟩
  rw [← hx] at hx0 hx128
  have hxe : (x == 0) = false := by simp [hx0]
  clear hx
  go_enter Try.func12, Try.ntmps12
  go_wp2_with (go_at_call 26; refine (check_ok _ bs _ hr (by omega) hk).mono ?_; rintro e w1 ⟨rfl, rfl⟩)
  go_loop [5, 32] (fun v i => ∃ k : Nat, k ≤ bs.length ∧ i = .int .i64 k ∧ v = .int .u32 (val (bs.take k))) (fun _ i => bs.length - (intOf i).toNat)
  case atStart => exact ⟨0, Nat.zero_le _, rfl, rfl⟩
  case round =>
    obtain ⟨k, hkk, rfl, rfl⟩ := hrel
    by_cases hlt : k < bs.length
    · obtain ⟨y, hy⟩ : ∃ x, x = bs.getD k 0 := ⟨_, rfl⟩
      have ck : w.cell? ⟨b, off + k, none⟩ = some (.int .u8 y) := by rw [hy]; exact hc k hlt
      have hyb := hby k hlt
      rw [← hy] at hyb
      have hv := val_take_bound bs hby k (by omega) (by omega)
      have HV : Hid (val (bs.take (k + 1)) = bits .or .u32 (val (bs.take k) * 256) y) := by
        show _ = _
        rw [or_shift32 _ _ hv.1 hv.2 hyb.1 hyb.2, val_take_succ bs k hlt, hy]
      clear hc hy
      go_wp2
      go_round
      case rel => exact ⟨k + 1, by omega, by go_num, by rw [HV.out]⟩
      case measure => simp [intOf]; omega
    · have HK : Hid (bs.take k = bs) := List.take_of_length_le (by omega)
      clear hc
      go_wp2
      go_ret2
      rw [HK.out]
      exact ⟨rfl, rfl⟩

set_option maxHeartbeats 400000 in
set_option maxRecDepth 100000 in
theorem u32_zero (rs : List Int) (b off c : Nat) (w : World) (hc : ∀ j, j < ((0 : Int) :: rs).length → w.cell? ⟨b, off + j, none⟩ = some (.int .u8 (((0 : Int) :: rs).getD j 0))) (hl : rs.length ≤ 4)
    (hby : Bytes rs) (hk : chk (0 :: rs) = true) (hlc : rs.length + 1 ≤ c) (hcm : c ≤ maxLen) (hb : b < w.heap.size) :
    Calls Try.prog 12 #[.slice (some ⟨b, off, none⟩) (rs.length + 1) c] w fun e w' => e = .returned (.tuple #[.int .u32 (val rs), .nilIface]) ∧ w = w' := by
  have c0 : w.cell? ⟨b, off, none⟩ = some (.int .u8 0) := hc 0 (by simp)
  have hr : Rd w (.slice (some ⟨b, off, none⟩) (rs.length + 1) c) (0 :: rs) := .inr ⟨b, off, c, rfl, by simp, hlc, hcm, hb, hc⟩
  have hl2 : (0 :: rs : List Int).length ≤ 1000000 := by simp; omega
  have hc' : ∀ j, j < rs.length → w.cell? ⟨b, off + 1 + j, none⟩ = some (.int .u8 (rs.getD j 0)) := by
    intro j hj
    have := hc (j + 1) (by simp; omega)
    rw [show off + 1 + j = off + (j + 1) by omega, this]
    simp
  clear hc
  unfold maxLen at hcm
  by_cases hc1 : c = 1
  · subst hc1
    have hr0 : rs = [] := List.eq_nil_of_length_eq_zero (by omega)
    subst hr0
    go_enter Try.func12, Try.ntmps12
    go_wp2_with (go_at_call 26; refine (check_ok _ [0] _ hr (by simp) hk).mono ?_; rintro e w1 ⟨rfl, rfl⟩)
    refine wp_loop_rounds 1 ?_
    rw [rounds_succ]
    go_wp2
    go_ret2
    exact ⟨rfl, rfl⟩
  · go_enter Try.func12, Try.ntmps12
    go_wp2_with (go_at_call 26; refine (check_ok _ (0 :: rs) _ hr hl2 hk).mono ?_; rintro e w1 ⟨rfl, rfl⟩)
    go_loop [5, 32] (fun v i => ∃ k : Nat, k ≤ rs.length ∧ i = .int .i64 k ∧ v = .int .u32 (val (rs.take k))) (fun _ i => rs.length - (intOf i).toNat)
    case atStart => exact ⟨0, Nat.zero_le _, rfl, rfl⟩
    case round =>
      obtain ⟨k, hkk, rfl, rfl⟩ := hrel
      by_cases hlt : k < rs.length
      · obtain ⟨y, hy⟩ : ∃ x, x = rs.getD k 0 := ⟨_, rfl⟩
        have ck : w.cell? ⟨b, off + 1 + k, none⟩ = some (.int .u8 y) := by rw [hy]; exact hc' k hlt
        have hyb := hby k hlt
        rw [← hy] at hyb
        have hv := val_take_bound rs hby k (by omega) (by omega)
        have HV : Hid (val (rs.take (k + 1)) = bits .or .u32 (val (rs.take k) * 256) y) := by
          show _ = _
          rw [or_shift32 _ _ hv.1 hv.2 hyb.1 hyb.2, val_take_succ rs k hlt, hy]
        clear hc' hy
        go_wp2
        go_round
        case rel => exact ⟨k + 1, by omega, by go_num, by rw [HV.out]⟩
        case measure => simp [intOf]; omega
      · have HK : Hid (rs.take k = rs) := List.take_of_length_le (by omega)
        clear hc'
        go_wp2
        go_ret2
        rw [HK.out]
        exact ⟨rfl, rfl⟩

set_option maxHeartbeats 400000 in
set_option maxRecDepth 100000 in
/-- Every way on which Uint32 refuses. -/
theorem u32_bad (v : Value) (bs : List Int) (w : World) (hv : Rd w v bs) (hl : bs.length ≤ 1000000)
    (h : chk bs = false ∨ (chk bs = true ∧ 128 ≤ bs.getD 0 0) ∨ (chk bs = true ∧ bs.getD 0 0 = 0 ∧ 5 < bs.length) ∨ (chk bs = true ∧ 0 < bs.getD 0 0 ∧ bs.getD 0 0 < 128 ∧ 4 < bs.length)) :
    Calls Try.prog 12 #[v] w fun e w' => ∃ a, e = .returned (.tuple #[.int .u32 0, .iface 47 (.pointer (some a))]) ∧ Below w.heap.size w w' := by
  rcases h with h | h
  · go_enter Try.func12, Try.ntmps12
    go_wp2_with (go_at_call 26; refine (check_bad _ bs _ hv hl h).mono ?_; rintro e w1 ⟨a, rfl, hbel⟩)
    go_ret2
    exact ⟨_, rfl, hbel⟩
  · have hk : chk bs = true := by rcases h with h | h | h <;> exact h.1
    have hp := (chk_true hk).1
    have hr := hv
    obtain ⟨b, off, c, rfl, hlc, hcm, _, hc⟩ := hv.pos hp
    obtain ⟨x, hx⟩ : ∃ x, x = bs.getD 0 0 := ⟨_, rfl⟩
    have c0 : w.cell? ⟨b, off, none⟩ = some (.int .u8 x) := by rw [hx]; exact hc 0 hp
    rw [← hx] at h
    unfold maxLen at hcm
    clear hc hx
    rcases h with ⟨_, h1⟩ | ⟨_, h1, h2⟩ | ⟨_, h1, h2, h3⟩
    · go_enter Try.func12, Try.ntmps12
      go_wp2_with (first
        | (go_at_call 26; refine (check_ok _ bs _ hr hl hk).mono ?_; rintro e w1 ⟨rfl, rfl⟩)
        | (go_at_call 27; refine (new_any _ _).mono ?_; rintro e w1 ⟨a, rfl, hbel⟩))
      go_ret2
      exact ⟨_, rfl, hbel⟩
    · subst h1
      have hc1 : ¬ c = 1 := by omega
      go_enter Try.func12, Try.ntmps12
      go_wp2_with (first
        | (go_at_call 26; refine (check_ok _ bs _ hr hl hk).mono ?_; rintro e w1 ⟨rfl, rfl⟩)
        | (go_at_call 27; refine (new_any _ _).mono ?_; rintro e w1 ⟨a, rfl, hbel⟩))
      go_ret2
      exact ⟨_, rfl, hbel⟩
    · have hxe : (x == 0) = false := beq_eq_false_iff_ne.2 (by omega)
      go_enter Try.func12, Try.ntmps12
      go_wp2_with (first
        | (go_at_call 26; refine (check_ok _ bs _ hr hl hk).mono ?_; rintro e w1 ⟨rfl, rfl⟩)
        | (go_at_call 27; refine (new_any _ _).mono ?_; rintro e w1 ⟨a, rfl, hbel⟩))
      go_ret2
      exact ⟨_, rfl, hbel⟩
end Go.Proofs.Qxb6002406a
