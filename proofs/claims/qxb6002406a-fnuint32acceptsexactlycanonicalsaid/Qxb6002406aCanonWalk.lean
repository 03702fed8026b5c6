/-
  The walk of FnUint32AcceptsExactlyCanonical (3).
-/
import Derived.Test.Qxb6002406aCanon
import Derived.Test.Qxb6002406aEq
import Derived.Test.Qxb6002406aChkWalk
namespace Go.Proofs.Qxb6002406a
open Go.RowKit

set_option maxHeartbeats 400000 in
theorem zz10_yes (ao : Option Addr) (n c : Nat) (w : World) (h : n ≤ 1048576) : Calls Try.prog 10 #[.slice ao n c] w fun e w' => e = .returned (.bool true) ∧ w = w' := by
  go_enter Try.func10, Try.ntmps10
  go_wp2
  go_ret
  exact ⟨rfl, rfl⟩

set_option maxHeartbeats 400000 in
theorem zz10_no (ao : Option Addr) (n c : Nat) (w : World) (h : 1048576 < n) : Calls Try.prog 10 #[.slice ao n c] w fun e w' => e = .returned (.bool false) ∧ w = w' := by
  go_enter Try.func10, Try.ntmps10
  go_wp2
  go_ret
  exact ⟨rfl, rfl⟩

/-- Uint32 refuses bs. -/
def Refuse (bs : List Int) : Prop := chk bs = false ∨ (chk bs = true ∧ 128 ≤ bs.getD 0 0) ∨ (chk bs = true ∧ bs.getD 0 0 = 0 ∧ 5 < bs.length) ∨ (chk bs = true ∧ 0 < bs.getD 0 0 ∧ bs.getD 0 0 < 128 ∧ 4 < bs.length)

set_option maxHeartbeats 400000 in
set_option maxRecDepth 100000 in
/-- The ways on which nothing is spelled: no octets at all, or the first from 128 on. -/
theorem canon_short (ao : Option Addr) (len cap : Nat) (bs : List Int) (w : World) (hr : Rd w (.slice ao len cap) bs) (hlen : bs.length = len) (hl : len ≤ 65536)
    (h : bs.length = 0 ∨ (0 < bs.length ∧ 128 ≤ bs.getD 0 0)) :
    Calls Try.prog 3 #[.slice ao len cap] w fun e w' => e = .returned (.bool true) ∧ Below w.heap.size w w' := by
  have HL : Hid (bs.length = len) := hlen
  have hbl : bs.length ≤ 65536 := by omega
  clear hlen
  have HR : Refuse bs := by
    show chk bs = false ∨ (chk bs = true ∧ 128 ≤ bs.getD 0 0) ∨ (chk bs = true ∧ bs.getD 0 0 = 0 ∧ 5 < bs.length) ∨ (chk bs = true ∧ 0 < bs.getD 0 0 ∧ bs.getD 0 0 < 128 ∧ 4 < bs.length)
    rcases h with h | ⟨_, h⟩
    · left; simp [chk, h]
    · exact refuse_neg bs h
  go_enter Try.func3, Try.ntmps3
  go_wp2_with (first
    | (go_at_call 10; refine (zz10_yes _ _ _ _ (by omega)).mono ?_; rintro e w1 ⟨rfl, rfl⟩)
    | (go_at_call 11; refine Hid.out ?_))
  unfold Hid
  refine (clone_any _ bs _ hr (by omega)).mono ?_
  rintro e w1 ⟨v1, rfl, hown, hbel⟩
  go_wp2_with (go_at_call 12; refine Hid.out ?_)
  unfold Hid
  refine (u32_bad _ bs _ hown.rd (by omega) HR).mono ?_
  rintro e w2 ⟨a, rfl, hbel2⟩
  have hr2 := hown.rd.below hbel2 (Nat.le_refl _)
  have hb2 := hbel.trans (hbel2.mono hbel.size)
  clear hown hbel hbel2
  rcases h with h | ⟨h, h1⟩
  · obtain ⟨a1, c1, hv⟩ := hr2.form
    rw [h] at hv
    subst hv
    go_wp2
    go_ret
    exact ⟨rfl, hb2⟩
  · obtain ⟨b, off, c, hv, _, _, _, hc⟩ := hr2.pos h
    subst hv
    obtain ⟨x, hx⟩ : ∃ x, x = bs.getD 0 0 := ⟨_, rfl⟩
    have c0 : w2.cell? ⟨b, off, none⟩ = some (.int .u8 x) := by rw [hx]; exact hc 0 h
    rw [← hx] at h1
    clear hx hc
    go_wp2
    go_ret
    exact ⟨rfl, hb2⟩

set_option maxHeartbeats 1000000 in
set_option maxRecDepth 100000 in
theorem canon_long (ao : Option Addr) (len cap : Nat) (bs : List Int) (w : World) (hr : Rd w (.slice ao len cap) bs) (hlen : bs.length = len) (hl : len ≤ 65536)
    (hp : 0 < bs.length) (h0 : bs.getD 0 0 < 128) (hll : 4 < bs.length - lz bs) (HR : Refuse bs) :
    Calls Try.prog 3 #[.slice ao len cap] w fun e w' => e = .returned (.bool true) ∧ Below w.heap.size w w' := by
  have HL : Hid (bs.length = len) := hlen
  have hbl : bs.length ≤ 65536 := by omega
  clear hlen
  have hzl := lz_le bs
  obtain ⟨z, hz⟩ : ∃ z, z = lz bs := ⟨_, rfl⟩
  have Hz0 : Hid (∀ j, j < z → bs.getD j 0 = 0) := by rw [hz]; exact fun j hj => lz_zero bs j hj
  have Hz1 : Hid (z < bs.length → ¬ bs.getD z 0 = 0) := by rw [hz]; exact fun h => lz_stop bs h
  rw [← hz] at hzl hll
  have HZ : Hid (z = lz bs) := hz
  clear hz
  go_enter Try.func3, Try.ntmps3
  go_wp2_with (first
    | (go_at_call 10; refine (zz10_yes _ _ _ _ (by omega)).mono ?_; rintro e w1 ⟨rfl, rfl⟩)
    | (go_at_call 11; refine Hid.out ?_))
  unfold Hid
  refine (clone_any _ bs _ hr (by omega)).mono ?_
  rintro e w1 ⟨v1, rfl, hown, hbel⟩
  go_wp2_with (go_at_call 12; refine Hid.out ?_)
  unfold Hid
  refine (u32_bad _ bs _ hown.rd (by omega) HR).mono ?_
  rintro e w2 ⟨a, rfl, hbel2⟩
  have hr2 := hown.rd.below hbel2 (Nat.le_refl _)
  have hb2 := hbel.trans (hbel2.mono hbel.size)
  clear hown hbel hbel2
  have hr3 := hr2
  obtain ⟨b, off, c, hv, _, _, hbw, hc⟩ := hr2.pos hp
  subst hv
  obtain ⟨x, hx⟩ : ∃ x, x = bs.getD 0 0 := ⟨_, rfl⟩
  have c0 : w2.cell? ⟨b, off, none⟩ = some (.int .u8 x) := by rw [hx]; exact hc 0 hp
  rw [← hx] at h0
  clear hx
  go_wp2
  go_loop [7] (fun i => ∃ k : Nat, k ≤ z ∧ i = .int .i64 k) (fun i => z - (intOf i).toNat)
  case atStart => exact ⟨0, Nat.zero_le _, rfl⟩
  case round =>
    obtain ⟨k, hk, rfl⟩ := hrel
    by_cases hkz : k < z
    · have ck : w2.cell? ⟨b, off + k, none⟩ = some (.int .u8 0) := by have := hc k (by omega); rw [Hz0.out k hkz] at this; exact this
      have hki : (k : Int) < (bs.length : Int) := by omega
      clear hc
      go_wp2
      go_round
      case rel => exact ⟨k + 1, by omega, by go_num⟩
      case measure => simp [intOf]; omega
    · have hkz' : k = z := by omega
      subst hkz'
      obtain ⟨y, hy⟩ : ∃ y, y = bs.getD k 0 := ⟨_, rfl⟩
      have ck : w2.cell? ⟨b, off + k, none⟩ = some (.int .u8 y) := by rw [hy]; exact hc k (by omega)
      have hyz : (y == 0) = false := by rw [hy]; exact beq_eq_false_iff_ne.2 (Hz1.out (by omega))
      have hki : (k : Int) < (bs.length : Int) := by omega
      clear hy hc
      go_wp2
      go_ret
      exact ⟨rfl, hb2⟩


set_option maxHeartbeats 1000000 in
set_option maxRecDepth 100000 in
theorem canon_yes (ao : Option Addr) (len cap : Nat) (bs : List Int) (w : World) (hr : Rd w (.slice ao len cap) bs) (hlen : bs.length = len) (hl : len ≤ 65536) (hby : Bytes bs)
    (hp : 0 < bs.length) (h0 : bs.getD 0 0 < 128) (hll : bs.length - lz bs ≤ 4) (W : Nat) (hW : W < 4294967296) (hWv : val (bs.drop (lz bs)) = (W : Int)) (HE : Hid (cont W = bs)) :
    Calls Try.prog 3 #[.slice ao len cap] w fun e w' => e = .returned (.bool true) ∧ Below w.heap.size w w' := by
  have HL : Hid (bs.length = len) := hlen
  have hbl : bs.length ≤ 65536 := by omega
  clear hlen
  have hzl := lz_le bs
  obtain ⟨z, hz⟩ : ∃ z, z = lz bs := ⟨_, rfl⟩
  have Hz0 : Hid (∀ j, j < z → bs.getD j 0 = 0) := by rw [hz]; exact fun j hj => lz_zero bs j hj
  have Hz1 : Hid (z < bs.length → ¬ bs.getD z 0 = 0) := by rw [hz]; exact fun h => lz_stop bs h
  rw [← hz] at hzl hll
  have HZ : Hid (z = lz bs) := hz
  clear hz
  obtain ⟨R, hR⟩ : ∃ R, R = bs.drop z := ⟨_, rfl⟩
  have hRl1 : bs.length ≤ z + R.length := by rw [hR, List.length_drop]; omega
  have hRl2 : z + R.length ≤ bs.length := by rw [hR, List.length_drop]; omega
  have hR4 : R.length ≤ 4 := by omega
  have HRb : Bytes R := by rw [hR]; exact bytes_drop hby z
  have HRc : Hid (∀ m, m < R.length → R.getD m 0 = bs.getD (z + m) 0) := by
    intro m hm
    rw [hR]
    simp [List.getD, List.getElem?_drop]
  have HWR : Hid (val R = (W : Int)) := by rw [hR, HZ.out]; exact hWv
  clear hR hWv
  go_enter Try.func3, Try.ntmps3
  go_wp2_with (first
    | (go_at_call 10; refine (zz10_yes _ _ _ _ (by omega)).mono ?_; rintro e w1 ⟨rfl, rfl⟩)
    | (go_at_call 11; refine Hid.out ?_))
  unfold Hid
  refine (clone_any _ bs _ hr (by omega)).mono ?_
  rintro e w1 ⟨v1, rfl, hown, hbel⟩
  go_wp2_with (go_at_call 12; refine Hid.out ?_)
  unfold Hid
  refine (u32_cont W hW _ _ (by rw [HE.out]; exact hown.rd)).mono ?_
  rintro e w2 ⟨rfl, rfl⟩
  have hr2 := hown.rd
  have hb2 := hbel
  clear hown hbel
  have hr3 := hr2
  obtain ⟨b, off, c, hv, _, _, hbw, hc⟩ := hr2.pos hp
  subst hv
  obtain ⟨x, hx⟩ : ∃ x, x = bs.getD 0 0 := ⟨_, rfl⟩
  have c0 : w1.cell? ⟨b, off, none⟩ = some (.int .u8 x) := by rw [hx]; exact hc 0 hp
  rw [← hx] at h0
  clear hx
  have HC : Hid (∀ j, j < bs.length → w1.cell? ⟨b, off + j, none⟩ = some (.int .u8 (bs.getD j 0))) := hc
  clear hc
  go_wp2
  go_loop [7] (fun i => ∃ k : Nat, k ≤ z ∧ i = .int .i64 k) (fun i => z - (intOf i).toNat)
  case atStart => exact ⟨0, Nat.zero_le _, rfl⟩
  case round =>
    obtain ⟨k, hk, rfl⟩ := hrel
    by_cases hkz : k < z
    · have ck : w1.cell? ⟨b, off + k, none⟩ = some (.int .u8 0) := by have := HC.out k (by omega); rw [Hz0.out k hkz] at this; exact this
      have hki : (k : Int) < (bs.length : Int) := by omega
      go_wp2
      go_round
      case rel => exact ⟨k + 1, by omega, by go_num⟩
      case measure => simp [intOf]; omega
    · have hkz' : k = z := by omega
      subst hkz'
      by_cases hzn : k < bs.length
      · obtain ⟨y, hy⟩ : ∃ y, y = bs.getD k 0 := ⟨_, rfl⟩
        have ck : w1.cell? ⟨b, off + k, none⟩ = some (.int .u8 y) := by rw [hy]; exact HC.out k (by omega)
        have hyz : (y == 0) = false := by rw [hy]; exact beq_eq_false_iff_ne.2 (Hz1.out (by omega))
        have hki : (k : Int) < (bs.length : Int) := by omega
        clear hy
        go_wp2
        go_loop [6, 8] (fun v i => ∃ m : Nat, m ≤ R.length ∧ i = .int .i64 ((k + m : Nat) : Int) ∧ v = .int .u32 (val (R.take m))) (fun _ i => bs.length - (intOf i).toNat)
        case atStart => exact ⟨0, Nat.zero_le _, by go_num, rfl⟩
        case round =>
          obtain ⟨m, hm, rfl, rfl⟩ := hrel
          by_cases hmr : m < R.length
          · obtain ⟨y, hy⟩ : ∃ y, y = R.getD m 0 := ⟨_, rfl⟩
            have ck : w1.cell? ⟨b, off + (k + m), none⟩ = some (.int .u8 y) := by rw [hy, HRc.out m hmr]; exact HC.out _ (by omega)
            have hyb := HRb m hmr
            rw [← hy] at hyb
            have hv := val_take_bound R HRb m (by omega) (by omega)
            have HV : Hid (val (R.take (m + 1)) = bits .or .u32 (val (R.take m) * 256) y) := by
              show _ = _
              rw [or_shift32 _ _ hv.1 hv.2 hyb.1 hyb.2, val_take_succ R m hmr, hy]
            have hmi : ((k + m : Nat) : Int) < (bs.length : Int) := by omega
            clear hy
            go_wp2
            go_round
            case rel => exact ⟨m + 1, by omega, by go_num, by rw [HV.out]⟩
            case measure => simp [intOf]; omega
          · have HV : Hid (val (R.take m) = (W : Int)) := by
              have e : R.take m = R := List.take_of_length_le (by omega)
              show _ = _
              rw [e]; exact HWR.out
            have hmi : ¬ ((k + m : Nat) : Int) < (bs.length : Int) := by omega
            rw [HV.out]
            go_wp2_with (go_at_call 13; refine Hid.out ?_)
            unfold Hid
            refine (encU_any W _ hW).mono ?_
            rintro e w3 ⟨s3, rfl, hown3, hbel3⟩
            have hl3 := cont_length W hW
            rw [encU_form W hW] at hown3
            obtain ⟨b3, off3, c3, hs3, hlc3, hcm3, hb3, hc3⟩ := hown3.rd.pos (by simp)
            simp only [List.length_cons] at hs3 hlc3 hc3
            subst hs3
            have hrc : Rd w3 (.slice (some ⟨b3, off3 + 2, none⟩) (cont W).length (c3 - 2)) (cont W) := by
              refine .inr ⟨b3, off3 + 2, c3 - 2, rfl, by omega, by omega, by omega, hb3, fun j hj => ?_⟩
              have := hc3 (j + 2) (by omega)
              rw [show off3 + 2 + j = off3 + (j + 2) by omega, this]
              simp
            have hr4 := hr3.below hbel3 (Nat.le_refl _)
            have hb4 := hb2.trans (hbel3.mono hb2.size)
            clear hc3 hown3 hr3 hbel3
            unfold maxLen at hcm3
            have hc2 : ¬ c3 = 2 := by omega
            have hEQ : eqB (cont W) bs = true := eqB_yes HE.out
            go_wp2_with (go_at_call 14; refine (eq_rd _ _ (cont W) bs _ hrc hr4 (by omega) (by omega)).mono ?_; rintro e w5 ⟨rfl, hbel5⟩)
            go_ret
            exact ⟨rfl, hb4.trans (hbel5.mono hb4.size)⟩
      · have hki : decide ((k : Int) < (bs.length : Int)) = false := by simp; omega
        go_wp2
        go_loop [6, 8] (fun v i => ∃ m : Nat, m ≤ R.length ∧ i = .int .i64 ((k + m : Nat) : Int) ∧ v = .int .u32 (val (R.take m))) (fun _ i => bs.length - (intOf i).toNat)
        case atStart => exact ⟨0, Nat.zero_le _, by go_num, rfl⟩
        case round =>
          obtain ⟨m, hm, rfl, rfl⟩ := hrel
          by_cases hmr : m < R.length
          · exfalso; omega
          · have HV : Hid (val (R.take m) = (W : Int)) := by
              have e : R.take m = R := List.take_of_length_le (by omega)
              show _ = _
              rw [e]; exact HWR.out
            have hmi : ¬ ((k + m : Nat) : Int) < (bs.length : Int) := by omega
            rw [HV.out]
            go_wp2_with (go_at_call 13; refine Hid.out ?_)
            unfold Hid
            refine (encU_any W _ hW).mono ?_
            rintro e w3 ⟨s3, rfl, hown3, hbel3⟩
            have hl3 := cont_length W hW
            rw [encU_form W hW] at hown3
            obtain ⟨b3, off3, c3, hs3, hlc3, hcm3, hb3, hc3⟩ := hown3.rd.pos (by simp)
            simp only [List.length_cons] at hs3 hlc3 hc3
            subst hs3
            have hrc : Rd w3 (.slice (some ⟨b3, off3 + 2, none⟩) (cont W).length (c3 - 2)) (cont W) := by
              refine .inr ⟨b3, off3 + 2, c3 - 2, rfl, by omega, by omega, by omega, hb3, fun j hj => ?_⟩
              have := hc3 (j + 2) (by omega)
              rw [show off3 + 2 + j = off3 + (j + 2) by omega, this]
              simp
            have hr4 := hr3.below hbel3 (Nat.le_refl _)
            have hb4 := hb2.trans (hbel3.mono hb2.size)
            clear hc3 hown3 hr3 hbel3
            unfold maxLen at hcm3
            have hc2 : ¬ c3 = 2 := by omega
            have hEQ : eqB (cont W) bs = true := eqB_yes HE.out
            go_wp2_with (go_at_call 14; refine (eq_rd _ _ (cont W) bs _ hrc hr4 (by omega) (by omega)).mono ?_; rintro e w5 ⟨rfl, hbel5⟩)
            go_ret
            exact ⟨rfl, hb4.trans (hbel5.mono hb4.size)⟩

set_option maxHeartbeats 1000000 in
set_option maxRecDepth 100000 in
theorem canon_no (ao : Option Addr) (len cap : Nat) (bs : List Int) (w : World) (hr : Rd w (.slice ao len cap) bs) (hlen : bs.length = len) (hl : len ≤ 65536) (hby : Bytes bs)
    (hp : 0 < bs.length) (h0 : bs.getD 0 0 < 128) (hll : bs.length - lz bs ≤ 4) (W : Nat) (hW : W < 4294967296) (hWv : val (bs.drop (lz bs)) = (W : Int)) (HE : Hid (¬ cont W = bs)) (HR : Refuse bs) :
    Calls Try.prog 3 #[.slice ao len cap] w fun e w' => e = .returned (.bool true) ∧ Below w.heap.size w w' := by
  have HL : Hid (bs.length = len) := hlen
  have hbl : bs.length ≤ 65536 := by omega
  clear hlen
  have hzl := lz_le bs
  obtain ⟨z, hz⟩ : ∃ z, z = lz bs := ⟨_, rfl⟩
  have Hz0 : Hid (∀ j, j < z → bs.getD j 0 = 0) := by rw [hz]; exact fun j hj => lz_zero bs j hj
  have Hz1 : Hid (z < bs.length → ¬ bs.getD z 0 = 0) := by rw [hz]; exact fun h => lz_stop bs h
  rw [← hz] at hzl hll
  have HZ : Hid (z = lz bs) := hz
  clear hz
  obtain ⟨R, hR⟩ : ∃ R, R = bs.drop z := ⟨_, rfl⟩
  have hRl1 : bs.length ≤ z + R.length := by rw [hR, List.length_drop]; omega
  have hRl2 : z + R.length ≤ bs.length := by rw [hR, List.length_drop]; omega
  have hR4 : R.length ≤ 4 := by omega
  have HRb : Bytes R := by rw [hR]; exact bytes_drop hby z
  have HRc : Hid (∀ m, m < R.length → R.getD m 0 = bs.getD (z + m) 0) := by
    intro m hm
    rw [hR]
    simp [List.getD, List.getElem?_drop]
  have HWR : Hid (val R = (W : Int)) := by rw [hR, HZ.out]; exact hWv
  clear hR hWv
  go_enter Try.func3, Try.ntmps3
  go_wp2_with (first
    | (go_at_call 10; refine (zz10_yes _ _ _ _ (by omega)).mono ?_; rintro e w1 ⟨rfl, rfl⟩)
    | (go_at_call 11; refine Hid.out ?_))
  unfold Hid
  refine (clone_any _ bs _ hr (by omega)).mono ?_
  rintro e w1 ⟨v1, rfl, hown, hbel⟩
  go_wp2_with (go_at_call 12; refine Hid.out ?_)
  unfold Hid
  refine (u32_bad _ bs _ hown.rd (by omega) HR).mono ?_
  rintro e w2 ⟨a, rfl, hbel2⟩
  have hr2 := hown.rd.below hbel2 (Nat.le_refl _)
  have hb2 := hbel.trans (hbel2.mono hbel.size)
  clear hown hbel hbel2
  have hr3 := hr2
  obtain ⟨b, off, c, hv, _, _, hbw, hc⟩ := hr2.pos hp
  subst hv
  obtain ⟨x, hx⟩ : ∃ x, x = bs.getD 0 0 := ⟨_, rfl⟩
  have c0 : w2.cell? ⟨b, off, none⟩ = some (.int .u8 x) := by rw [hx]; exact hc 0 hp
  rw [← hx] at h0
  clear hx
  have HC : Hid (∀ j, j < bs.length → w2.cell? ⟨b, off + j, none⟩ = some (.int .u8 (bs.getD j 0))) := hc
  clear hc
  go_wp2
  go_loop [7] (fun i => ∃ k : Nat, k ≤ z ∧ i = .int .i64 k) (fun i => z - (intOf i).toNat)
  case atStart => exact ⟨0, Nat.zero_le _, rfl⟩
  case round =>
    obtain ⟨k, hk, rfl⟩ := hrel
    by_cases hkz : k < z
    · have ck : w2.cell? ⟨b, off + k, none⟩ = some (.int .u8 0) := by have := HC.out k (by omega); rw [Hz0.out k hkz] at this; exact this
      have hki : (k : Int) < (bs.length : Int) := by omega
      go_wp2
      go_round
      case rel => exact ⟨k + 1, by omega, by go_num⟩
      case measure => simp [intOf]; omega
    · have hkz' : k = z := by omega
      subst hkz'
      by_cases hzn : k < bs.length
      · obtain ⟨y, hy⟩ : ∃ y, y = bs.getD k 0 := ⟨_, rfl⟩
        have ck : w2.cell? ⟨b, off + k, none⟩ = some (.int .u8 y) := by rw [hy]; exact HC.out k (by omega)
        have hyz : (y == 0) = false := by rw [hy]; exact beq_eq_false_iff_ne.2 (Hz1.out (by omega))
        have hki : (k : Int) < (bs.length : Int) := by omega
        clear hy
        go_wp2
        go_loop [6, 8] (fun v i => ∃ m : Nat, m ≤ R.length ∧ i = .int .i64 ((k + m : Nat) : Int) ∧ v = .int .u32 (val (R.take m))) (fun _ i => bs.length - (intOf i).toNat)
        case atStart => exact ⟨0, Nat.zero_le _, by go_num, rfl⟩
        case round =>
          obtain ⟨m, hm, rfl, rfl⟩ := hrel
          by_cases hmr : m < R.length
          · obtain ⟨y, hy⟩ : ∃ y, y = R.getD m 0 := ⟨_, rfl⟩
            have ck : w2.cell? ⟨b, off + (k + m), none⟩ = some (.int .u8 y) := by rw [hy, HRc.out m hmr]; exact HC.out _ (by omega)
            have hyb := HRb m hmr
            rw [← hy] at hyb
            have hv := val_take_bound R HRb m (by omega) (by omega)
            have HV : Hid (val (R.take (m + 1)) = bits .or .u32 (val (R.take m) * 256) y) := by
              show _ = _
              rw [or_shift32 _ _ hv.1 hv.2 hyb.1 hyb.2, val_take_succ R m hmr, hy]
            have hmi : ((k + m : Nat) : Int) < (bs.length : Int) := by omega
            clear hy
            go_wp2
            go_round
            case rel => exact ⟨m + 1, by omega, by go_num, by rw [HV.out]⟩
            case measure => simp [intOf]; omega
          · have HV : Hid (val (R.take m) = (W : Int)) := by
              have e : R.take m = R := List.take_of_length_le (by omega)
              show _ = _
              rw [e]; exact HWR.out
            have hmi : ¬ ((k + m : Nat) : Int) < (bs.length : Int) := by omega
            rw [HV.out]
            go_wp2_with (go_at_call 13; refine Hid.out ?_)
            unfold Hid
            refine (encU_any W _ hW).mono ?_
            rintro e w3 ⟨s3, rfl, hown3, hbel3⟩
            have hl3 := cont_length W hW
            rw [encU_form W hW] at hown3
            obtain ⟨b3, off3, c3, hs3, hlc3, hcm3, hb3, hc3⟩ := hown3.rd.pos (by simp)
            simp only [List.length_cons] at hs3 hlc3 hc3
            subst hs3
            have hrc : Rd w3 (.slice (some ⟨b3, off3 + 2, none⟩) (cont W).length (c3 - 2)) (cont W) := by
              refine .inr ⟨b3, off3 + 2, c3 - 2, rfl, by omega, by omega, by omega, hb3, fun j hj => ?_⟩
              have := hc3 (j + 2) (by omega)
              rw [show off3 + 2 + j = off3 + (j + 2) by omega, this]
              simp
            have hr4 := hr3.below hbel3 (Nat.le_refl _)
            have hb4 := hb2.trans (hbel3.mono hb2.size)
            clear hc3 hown3 hr3 hbel3
            unfold maxLen at hcm3
            have hc2 : ¬ c3 = 2 := by omega
            have hEQ : eqB (cont W) bs = false := eqB_no HE.out
            go_wp2_with (go_at_call 14; refine (eq_rd _ _ (cont W) bs _ hrc hr4 (by omega) (by omega)).mono ?_; rintro e w5 ⟨rfl, hbel5⟩)
            go_ret
            exact ⟨rfl, hb4.trans (hbel5.mono hb4.size)⟩
      · have hki : decide ((k : Int) < (bs.length : Int)) = false := by simp; omega
        go_wp2
        go_loop [6, 8] (fun v i => ∃ m : Nat, m ≤ R.length ∧ i = .int .i64 ((k + m : Nat) : Int) ∧ v = .int .u32 (val (R.take m))) (fun _ i => bs.length - (intOf i).toNat)
        case atStart => exact ⟨0, Nat.zero_le _, by go_num, rfl⟩
        case round =>
          obtain ⟨m, hm, rfl, rfl⟩ := hrel
          by_cases hmr : m < R.length
          · exfalso; omega
          · have HV : Hid (val (R.take m) = (W : Int)) := by
              have e : R.take m = R := List.take_of_length_le (by omega)
              show _ = _
              rw [e]; exact HWR.out
            have hmi : ¬ ((k + m : Nat) : Int) < (bs.length : Int) := by omega
            rw [HV.out]
            go_wp2_with (go_at_call 13; refine Hid.out ?_)
            unfold Hid
            refine (encU_any W _ hW).mono ?_
            rintro e w3 ⟨s3, rfl, hown3, hbel3⟩
            have hl3 := cont_length W hW
            rw [encU_form W hW] at hown3
            obtain ⟨b3, off3, c3, hs3, hlc3, hcm3, hb3, hc3⟩ := hown3.rd.pos (by simp)
            simp only [List.length_cons] at hs3 hlc3 hc3
            subst hs3
            have hrc : Rd w3 (.slice (some ⟨b3, off3 + 2, none⟩) (cont W).length (c3 - 2)) (cont W) := by
              refine .inr ⟨b3, off3 + 2, c3 - 2, rfl, by omega, by omega, by omega, hb3, fun j hj => ?_⟩
              have := hc3 (j + 2) (by omega)
              rw [show off3 + 2 + j = off3 + (j + 2) by omega, this]
              simp
            have hr4 := hr3.below hbel3 (Nat.le_refl _)
            have hb4 := hb2.trans (hbel3.mono hb2.size)
            clear hc3 hown3 hr3 hbel3
            unfold maxLen at hcm3
            have hc2 : ¬ c3 = 2 := by omega
            have hEQ : eqB (cont W) bs = false := eqB_no HE.out
            go_wp2_with (go_at_call 14; refine (eq_rd _ _ (cont W) bs _ hrc hr4 (by omega) (by omega)).mono ?_; rintro e w5 ⟨rfl, hbel5⟩)
            go_ret
            exact ⟨rfl, hb4.trans (hbel5.mono hb4.size)⟩


set_option maxHeartbeats 400000 in
set_option maxRecDepth 100000 in
theorem canonWalk (ao : Option Addr) (len cap : Nat) (bs : List Int) (w : World) (hr : Rd w (.slice ao len cap) bs) (hlen : bs.length = len) (hmax : len ≤ maxLen) (hby : Bytes bs) :
    Calls Try.prog 3 #[.slice ao len cap] w fun e w' => e = .returned (.bool true) ∧ Below w.heap.size w w' := by
  unfold maxLen at hmax
  by_cases h20 : 1048576 < len
  · go_enter Try.func3, Try.ntmps3
    go_wp2_with (go_at_call 10; refine (zz10_no _ _ _ _ h20).mono ?_; rintro e w1 ⟨rfl, rfl⟩)
    go_ret
    exact ⟨rfl, Below.refl _ _⟩
  by_cases h16 : 65536 < len
  · go_enter Try.func3, Try.ntmps3
    go_wp2_with (go_at_call 10; refine (zz10_yes _ _ _ _ (by omega)).mono ?_; rintro e w1 ⟨rfl, rfl⟩)
    go_ret
    exact ⟨rfl, Below.refl _ _⟩
  by_cases hz : bs.length = 0
  · exact canon_short ao len cap bs w hr hlen (by omega) (.inl hz)
  by_cases hn : 128 ≤ bs.getD 0 0
  · exact canon_short ao len cap bs w hr hlen (by omega) (.inr ⟨by omega, hn⟩)
  by_cases hl : 4 < bs.length - lz bs
  · exact canon_long ao len cap bs w hr hlen (by omega) (by omega) (by omega) hl (refuse_long bs hby (by omega) hl)
  have hv := val_lt (bs.drop (lz bs)) (bytes_drop hby _) (by rw [List.length_drop]; omega)
  have hW : val (bs.drop (lz bs)) = ((val (bs.drop (lz bs))).toNat : Int) := by omega
  by_cases he : cont (val (bs.drop (lz bs))).toNat = bs
  · exact canon_yes ao len cap bs w hr hlen (by omega) hby (by omega) (by omega) (by omega) _ (by omega) hW he
  · exact canon_no ao len cap bs w hr hlen (by omega) hby (by omega) (by omega) (by omega) _ (by omega) hW he (refuse_other bs hby (by omega) (by omega) he)
end Go.Proofs.Qxb6002406a
