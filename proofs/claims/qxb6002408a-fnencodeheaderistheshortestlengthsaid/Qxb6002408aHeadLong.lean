/-
  The walk of FnEncodeHeaderIsTheShortestLength (4), a length of 128 or more.
-/
import Derived.Test.Qxb6002408aHead
namespace Go.Proofs.Qxb6002408a
open Go.RowKit

theorem or_shift64 (v y : Int) (h0 : 0 ≤ v) (h1 : v < 16777216) (h2 : 0 ≤ y) (h3 : y ≤ 255) : bits .or .i64 (v * 256) y = v * 256 + y := by
  obtain ⟨n, rfl⟩ := Int.eq_ofNat_of_zero_le h0
  obtain ⟨m, rfl⟩ := Int.eq_ofNat_of_zero_le h2
  have e : ((n : Int) * 256) = ((n * 256 : Nat) : Int) := by omega
  rw [e]
  show IntKind.i64.wrap ((BitVec.ofInt 64 ((n * 256 : Nat) : Int) ||| BitVec.ofInt 64 (m : Int)).toNat : Int) = _
  rw [BitVec.toNat_or, ofInt_u64 _ (by omega), ofInt_u64 m (by omega), nat_join8 _ _ (by omega) (by omega), IntKind.wrap_i64]
  omega

theorem and_len (n : Nat) (h : n ≤ 3) : bits BinOp.and IntKind.u8 (128 + (n : Int)) 127 = (n : Int) := by
  have e : (128 + (n : Int)) = ((128 + n : Nat) : Int) := by omega
  rw [e, show (127 : Int) = ((127 : Nat) : Int) from rfl, u8_and_nat _ _ (by omega) (by omega)]
  match n, h with
  | 0, _ => rfl
  | 1, _ => rfl
  | 2, _ => rfl
  | 3, _ => rfl

set_option maxHeartbeats 1000000 in
set_option maxRecDepth 100000 in
theorem head_long (t : Int) (ao : Option Addr) (len cap : Nat) (bs : List Int) (m : Nat) (w : World) (hr : Rd w (.slice ao len cap) bs) (hlen : bs.length = len)
    (hl : len ≤ 1024) (hm : m ≤ 1024) (hN0 : ¬ m * bs.length < 128) :
    Calls Try.prog 4 #[.int .u8 t, .slice ao len cap, .int .i64 m] w fun e w' => e = .returned (.bool true) ∧ Below w.heap.size w w' := by
  have HL : Hid (bs.length = len) := hlen
  have hbl : bs.length ≤ 1024 := by omega
  clear hlen
  go_enter Try.func4, Try.ntmps4
  go_wp2_with (first
    | (go_at_call 9; refine (zz9_yes _ _ _ _ _ _ (by omega)).mono ?_; rintro e w1 ⟨rfl, rfl⟩)
    | (go_at_call 6; refine Hid.out ?_))
  unfold Hid
  refine (fresh_any _ bs _ hr (by omega)).mono ?_
  rintro e w1 ⟨v1, rfl, hown, hbel⟩
  obtain ⟨a1, c1, hv1⟩ := hown.rd.form
  subst hv1
  clear hr
  go_wp2_with (at_make; refine wpList_make_parts rfl (.tmp 32) (.tmp 32) rfl w1.heap.size .i64 .i64 m m m rfl rfl rfl rfl (by omega) (Nat.le_refl _) ?go1)
  case go1 =>
    intro w2 howns hgrow2
    have hbel2 : Below w1.heap.size w1 w2 := (Below.refl _ _).grown hgrow2 (Nat.le_refl _) (fun q hq => by cases hq)
    rw [← laid_zero (.slice a1 bs.length c1) m] at howns
    clear hgrow2
    go_wp2_with fail
    go_loopw [8] (fun i wr => ∃ k : Nat, k ≤ m ∧ i = .int .i64 k ∧ OwnS wr w1.heap.size (.slice (some ⟨w1.heap.size, 0, none⟩) m m) (laid (.slice a1 bs.length c1) m k) ∧ Below w1.heap.size w1 wr) (fun i _ => m - (intOf i).toNat)
    case atStart => exact ⟨0, Nat.zero_le _, rfl, howns, hbel2⟩
    case round =>
      clear howns hbel2
      obtain ⟨k, hk, rfl, howns, hbel2⟩ := hrel
      by_cases hkm : k < m
      · have hml := laid_length (.slice a1 bs.length c1) m k hk
        obtain ⟨old, hold⟩ : ∃ old, wr.cell? ⟨w1.heap.size, k, none⟩ = some old := by
          rw [howns.cell hml k hkm]
          exact ⟨_, List.getElem?_eq_getElem (by omega)⟩
        have fg := howns.frozen hml k
        have hst := howns.stored hml k (.slice a1 bs.length c1)
        have HO : Hid (OwnS (wr.setCell ⟨w1.heap.size, k, none⟩ (.slice a1 bs.length c1)) w1.heap.size (.slice (some ⟨w1.heap.size, 0, none⟩) m m) (laid (.slice a1 bs.length c1) m (k + 1))) := by
          rw [← laid_set _ m k hkm]; exact hst.1
        have HB : Hid (Below w1.heap.size w1 (wr.setCell ⟨w1.heap.size, k, none⟩ (.slice a1 bs.length c1))) := hbel2.grown hst.2 hbel2.size (fun q hq => by cases hq; exact Nat.le_refl _)
        clear hst howns hml
        go_wp2
        go_roundw
        case rel => exact ⟨k + 1, by omega, by go_num, HO.out, HB.out⟩
        case measure => simp [intOf]; omega
      · have hkk : k = m := by omega
        subst hkk
        rw [laid_all] at howns
        have hrd := hown.rd.below hbel2 (Nat.le_refl _)
        have hall := rdAll_parts howns hrd
        have hb2 := hbel.trans (hbel2.mono hbel.size)
        clear howns hown hbel hbel2
        go_wp2_with (go_at_call 7; refine Hid.out ?_)
        unfold Hid
        have hjr := joined_rep (.slice a1 bs.length c1) bs k
        have hbl2 := body_length bs k
        have hbg := body_get bs k
        obtain ⟨B, hB⟩ : ∃ B, B = (List.replicate k bs).flatten := ⟨_, rfl⟩
        rw [← hB] at hjr hbl2 hbg
        have hN : ¬ B.length < 128 := by rw [hbl2]; exact hN0
        clear hN0
        have hBle : B.length ≤ 1048576 := by rw [hbl2]; exact Nat.le_trans (Nat.mul_le_mul hm hbl) (by decide)
        refine (encode_any t _ (List.replicate k (.slice a1 bs.length c1, bs)) _ (by rw [List.length_replicate]; omega) (by rw [hjr]; omega) hall).mono ?_
        rintro e w3 ⟨v3, rfl, hown3, hbel3⟩
        rw [hjr] at hown3
        have hr1 := hrd.below hbel3 (Nat.le_refl _)
        have hb3 := hb2.trans (hbel3.mono hb2.size)
        have hmul : (k : Int) * (bs.length : Int) = (B.length : Int) := by rw [hbl2]; simp
        have HG : Hid (∀ i, i < B.length → B.getD i 0 = bs.getD (i % bs.length) 0) := fun i hi => hbg i (by omega)
        clear hbg hall hrd hb2 hbel3 hjr hB hbl2
        obtain ⟨hL1, hL3, hL0, hLv, hLb⟩ := be_len B.length (by omega) (by omega)
        have hE : encode t B = t :: ((128 + (be 8 B.length []).length : Nat) : Int) :: (be 8 B.length [] ++ B) := by unfold encode lenOct; rw [if_neg hN]; rfl
        obtain ⟨L, hL⟩ : ∃ L, L = be 8 B.length [] := ⟨_, rfl⟩
        rw [← hL] at hE hL1 hL3 hL0 hLv hLb
        rw [hE] at hown3
        have HLv : Hid (val L = (B.length : Int)) := hLv
        have HLb : Bytes L := hLb
        clear hE hL hLv hLb
        obtain ⟨bo, oo, co, hv3, hlc, hcm, hbo, hco⟩ := hown3.rd.pos (by simp)
        simp only [List.length_cons, List.length_append] at hv3 hlc hco
        subst hv3
        have e0 : w3.cell? ⟨bo, oo, none⟩ = some (.int .u8 t) := hco 0 (by omega)
        have e1 : w3.cell? ⟨bo, oo + 1, none⟩ = some (.int .u8 (128 + (L.length : Int))) := by
          rw [hco 1 (by omega)]; simp
        have HM : Hid (∀ i, i < L.length → w3.cell? ⟨bo, oo + (2 + i), none⟩ = some (.int .u8 (L.getD i 0))) := by
          intro i hi
          have := hco (2 + i) (by omega)
          rw [this, show 2 + i = i + 1 + 1 by omega]
          simp [List.getD, List.getElem?_append, hi]
        have HO : Hid (∀ i, i < B.length → w3.cell? ⟨bo, oo + (2 + L.length + i), none⟩ = some (.int .u8 (B.getD i 0))) := by
          intro i hi
          have := hco (2 + L.length + i) (by omega)
          rw [this, show 2 + L.length + i = (L.length + i) + 1 + 1 by omega]
          simp [List.getD, List.getElem?_append, show ¬ L.length + i < L.length by omega]
        obtain ⟨l0, hl0⟩ : ∃ x, x = L.getD 0 0 := ⟨_, rfl⟩
        have em : w3.cell? ⟨bo, oo + 2, none⟩ = some (.int .u8 l0) := by rw [hl0]; exact HM.out 0 (by omega)
        have hl0' : (l0 == 0) = false := by rw [hl0]; exact beq_eq_false_iff_ne.2 hL0
        clear hco hown3 hl0 hL0
        have hAnd : bits BinOp.and IntKind.u8 (128 + (L.length : Int)) 127 = (L.length : Int) := and_len _ (by omega)
        go_wp2_with fail
        go_loop [12, 14] (fun v j => ∃ i : Nat, i ≤ L.length ∧ j = .int .i64 i ∧ v = .int .i64 (val (L.take i))) (fun _ j => L.length - (intOf j).toNat)
        case atStart => exact ⟨0, Nat.zero_le _, rfl, rfl⟩
        case round =>
          obtain ⟨i, hi, rfl, rfl⟩ := hrel
          by_cases hil : i < L.length
          · obtain ⟨y, hy⟩ : ∃ y, y = L.getD i 0 := ⟨_, rfl⟩
            have ey : w3.cell? ⟨bo, oo + (2 + i), none⟩ = some (.int .u8 y) := by rw [hy]; exact HM.out i hil
            have hyb := HLb i hil
            rw [← hy] at hyb
            have hv := val_take_bound L HLb i (by omega) (by omega)
            have hi2 : (2 : Int) + (i : Int) < (L.length : Int) + (B.length : Int) + 1 + 1 := by omega
            have HV : Hid (val (L.take (i + 1)) = bits .or .i64 (val (L.take i) * 256) y) := by
              show _ = _
              rw [or_shift64 _ _ hv.1 hv.2 hyb.1 hyb.2, val_take_succ L i hil, hy]
            clear hy
            go_wp2
            go_round
            case rel => exact ⟨i + 1, by omega, by go_num, by rw [HV.out]⟩
            case measure => simp [intOf]; omega
          · have HV : Hid (val (L.take i) = (B.length : Int)) := by
              show _ = _
              rw [List.take_of_length_le (show L.length ≤ i by omega)]; exact HLv.out
            rw [HV.out]
            go_wp2
            go_loopw [15] (fun j wr => ∃ i : Nat, i ≤ B.length ∧ j = .int .i64 i ∧ ∃ n, wr = w3.drewN n) (fun j _ => B.length - (intOf j).toNat)
            case atStart => exact ⟨0, Nat.zero_le _, rfl, 0, rfl⟩
            case round =>
              obtain ⟨i, hi, rfl, n, rfl⟩ := hrel
              by_cases hib : i < B.length
              · have hpos : 0 < bs.length := by
                  rcases Nat.eq_zero_or_pos bs.length with hz | hz
                  · rw [hz] at hmul; simp at hmul; omega
                  · exact hz
                obtain ⟨ba, oa, ca, hva, _, _, _, hca⟩ := hr1.pos hpos
                simp only [Value.slice.injEq] at hva
                obtain ⟨hva1, _, hva2⟩ := hva
                subst hva1
                subst hva2
                obtain ⟨x, hx⟩ : ∃ x, x = B.getD i 0 := ⟨_, rfl⟩
                have e2 : w3.cell? ⟨bo, oo + (2 + L.length + i), none⟩ = some (.int .u8 x) := by rw [hx]; exact HO.out i hib
                have hmod : i % bs.length < bs.length := Nat.mod_lt _ hpos
                have e3 : w3.cell? ⟨ba, oa + i % bs.length, none⟩ = some (.int .u8 x) := by rw [hx, HG.out i hib]; exact hca _ hmod
                have hne : ((bs.length : Int) == 0) = false := beq_eq_false_iff_ne.2 (by omega)
                have hi2 : (2 : Int) + (L.length : Int) + (i : Int) < (L.length : Int) + (B.length : Int) + 1 + 1 := by omega
                have hm2 : (i : Int) % (bs.length : Int) < (bs.length : Int) := by omega
                have hm3 : 0 ≤ (i : Int) % (bs.length : Int) := by omega
                clear hx hca
                go_wp2
                go_quiet (fail)
                go_wp2
                go_roundw
                case rel => exact ⟨i + 1, by omega, by go_num, _, rfl⟩
                case measure => simp [intOf]; omega
              · go_wp2
                go_ret
                exact ⟨rfl, below_drewN hb3 _⟩
end Go.Proofs.Qxb6002408a
