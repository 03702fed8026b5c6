/-
  The walk of der.EncodeUint32 (function 13).
-/
import Derived.Test.Qxb6002406aEncode
namespace Go.Proofs.Qxb6002406a
open Go.RowKit

/-- One part, in a slice literal just built. -/
theorem RdAll.lit {w : World} {v : Value} {bs : List Int} (h : Rd w v bs) (e : TypeId) : RdAll (w.alloc (.cells #[v] e)) (.slice (some ⟨w.heap.size, 0, none⟩) 1 1) [(v, bs)] := by
  refine .inr ⟨w.heap.size, 0, 1, rfl, Nat.le_refl _, by unfold maxLen; omega, by simp, fun k p hp => ?_⟩
  match k, hp with
  | 0, hp =>
    simp at hp
    subst hp
    exact ⟨by simp, h.alloc _⟩

theorem RdAll.total (v : Value) (bs : List Int) : joined [(v, bs)] = bs := by simp [joined]

set_option maxHeartbeats 400000 in
set_option maxRecDepth 100000 in
theorem encU_any (v : Nat) (w : World) (hv : v < 4294967296) :
    Calls Try.prog 13 #[.int .u32 v] w fun e w' => ∃ s, e = .returned s ∧ Own w' w.heap.size 5 s (encU v) ∧ Below w.heap.size w w' := by
  go_enter Try.func13, Try.ntmps13
  go_wp2
  go_loopw [0, 3] (fun i lv wr => ∃ (f u : Nat) (bs : List Int), i = .int .u32 u ∧ u ≤ v ∧ Hid (be 4 v [] = be f u bs ∧ u < 256 ^ f ∧ bs.length + f = 4) ∧
    Own wr w.heap.size 5 lv bs ∧ Below w.heap.size w wr) (fun i _ _ => (intOf i).toNat)
  case atStart => exact ⟨4, v, [], rfl, Nat.le_refl _, ⟨rfl, hv, rfl⟩, Own.nil _ _ _, Below.refl _ _⟩
  case round =>
    obtain ⟨f, u, bs, rfl, hun, HB, hown, hbel⟩ := hrel
    obtain ⟨ao9, c9, hv9⟩ := hown.rd.form
    subst hv9
    by_cases hu : 0 < u
    · obtain ⟨f', HB'⟩ := be_round HB.out hu
      have HB2 : Hid (be 4 v [] = be f' (u / 256) (((u % 256 : Nat) : Int) :: bs) ∧ u / 256 < 256 ^ f' ∧ (((u % 256 : Nat) : Int) :: bs).length + f' = 4) := HB'
      have hbl : bs.length ≤ 4 := by have := HB.out.2.2; omega
      have hl2 : [((u % 256 : Nat) : Int)].length + bs.length ≤ 140737488355328 := by simp; omega
      have hO2 := Own.lit wr w.heap.size 5 ((u % 256 : Nat) : Int) hbel.size
      clear HB' HB
      go_wp2_with (at_builtin; refine wpList_append_rd rfl (.tmp 10) (.tmp 11) 22 rfl w.heap.size 5 Try.underlying22 Try.info5 _ [((u % 256 : Nat) : Int)] rfl hO2 _ bs rfl (hown.rd.alloc _) hl2 (Nat.le_trans hbel.size (by simp)) ?go2)
      case go2 =>
        intro v2 w2 hown2 hgrow2
        have hbel2 := (hbel.alloc hbel.size (.cells #[.int .u8 ((u % 256 : Nat) : Int)] 5)).grown hgrow2 (by have := hbel.size; simp; omega) (by intro q hq; simp [Value.ownBlock] at hq; have := hbel.size; omega)
        clear hgrow2 hown hO2
        go_wp2
        go_roundw
        case rel => exact ⟨f', u / 256, _, by go_num, by omega, HB2, hown2, hbel2⟩
        case measure => simp [intOf]; omega
    · have HB3 : Hid (bs = be 4 v []) := by
        have h1 := HB.out.1
        rw [show u = 0 by omega, be_zero] at h1
        exact h1.symm
      have hbl : bs.length ≤ 4 := by have := HB.out.2.2; omega
      clear HB
      have hO4 := Own.lit wr w.heap.size 5 0 hbel.size
      have hl4 : [(0 : Int)].length + bs.length ≤ 140737488355328 := by simp; omega
      by_cases hz : bs = []
      · have hz0 : bs.length = 0 := by simp [hz]
        rw [hz0] at hown ⊢
        have HZ : Hid (bs = []) := hz
        clear hz hz0
        go_wp2_with (at_builtin; refine wpList_append_rd rfl (.tmp 22) (.tmp 23) 22 rfl w.heap.size 5 Try.underlying22 Try.info5 _ [0] rfl hO4 _ bs rfl (hown.rd.alloc _) hl4 (Nat.le_trans hbel.size (by simp)) ?go4)
        case go4 =>
          intro v4 w4 hown4 hgrow4
          have hbel4 := (hbel.alloc hbel.size (.cells #[.int .u8 0] 5)).grown hgrow4 (by have := hbel.size; simp; omega) (by intro q hq; simp [Value.ownBlock] at hq; have := hbel.size; omega)
          have HC : Hid (encU v = encode 2 ([0] ++ bs)) := by
            show encode 2 (cont v) = _
            unfold cont
            rw [← HB3.out, if_pos (by exact .inl HZ.out)]; rfl
          clear hgrow4 hown HB3
          obtain ⟨ao4, c4, hv4⟩ := hown4.rd.form
          subst hv4
          have hR := RdAll.lit hown4.rd 22
          have hlen4 : (joined [(Value.slice ao4 ([0] ++ bs).length c4, [0] ++ bs)]).length ≤ 1000000000000 := by rw [RdAll.total]; simp; omega
          go_wp2_with (go_at_call 28; refine (encode_any _ _ [(Value.slice ao4 ([0] ++ bs).length c4, [0] ++ bs)] _ (by simp) hlen4 (by exact hR)).mono ?_; rintro e w5 ⟨s5, rfl, hown5, hbel5⟩)
          go_ret
          refine ⟨_, rfl, ?_, hbel4.trans ((Below.alloc (Below.refl _ _) (by exact hbel4.size) _).trans (hbel5.mono (by have := hbel4.size; simp; omega)))⟩
          rw [HC.out]
          rw [RdAll.total] at hown5
          exact hown5.mono (by have := hbel4.size; simp; omega)

      · rcases hown.rd with ⟨_, _, _, hq, _⟩ | ⟨b, off, c, hvv, hpos, hlc, hcm, hbs, hcl⟩
        · exact absurd hq hz
        · simp only [Value.slice.injEq] at hvv
          obtain ⟨rfl, _, rfl⟩ := hvv
          obtain ⟨x0, hx0⟩ : ∃ x, x = bs.getD 0 0 := ⟨_, rfl⟩
          have hc0 : wr.cell? ⟨b, off, none⟩ = some (.int .u8 x0) := by have := hcl 0 hpos; rw [hx0]; exact this
          have HX : Hid (x0 = bs.getD 0 0) := hx0
          have hne : ((bs.length : Int) == 0) = false := by simp; omega
          clear hcl hx0
          by_cases h128 : 128 ≤ x0
          · go_wp2_with (at_builtin; refine wpList_append_rd rfl (.tmp 22) (.tmp 23) 22 rfl w.heap.size 5 Try.underlying22 Try.info5 _ [0] rfl hO4 _ bs rfl (hown.rd.alloc _) hl4 (Nat.le_trans hbel.size (by simp)) ?go5)
            case go5 =>
              intro v4 w4 hown4 hgrow4
              have hbel4 := (hbel.alloc hbel.size (.cells #[.int .u8 0] 5)).grown hgrow4 (by have := hbel.size; simp; omega) (by intro q hq; simp [Value.ownBlock] at hq; have := hbel.size; omega)
              have HC : Hid (encU v = encode 2 ([0] ++ bs)) := by
                show encode 2 (cont v) = _
                unfold cont
                rw [← HB3.out, if_pos (by rw [HX.out] at h128; exact .inr h128)]; rfl
              clear hgrow4 hown HB3
              obtain ⟨ao4, c4, hv4⟩ := hown4.rd.form
              subst hv4
              have hR := RdAll.lit hown4.rd 22
              have hlen4 : (joined [(Value.slice ao4 ([0] ++ bs).length c4, [0] ++ bs)]).length ≤ 1000000000000 := by rw [RdAll.total]; simp; omega
              go_wp2_with (go_at_call 28; refine (encode_any _ _ [(Value.slice ao4 ([0] ++ bs).length c4, [0] ++ bs)] _ (by simp) hlen4 (by exact hR)).mono ?_; rintro e w5 ⟨s5, rfl, hown5, hbel5⟩)
              go_ret
              refine ⟨_, rfl, ?_, hbel4.trans ((Below.alloc (Below.refl _ _) (by exact hbel4.size) _).trans (hbel5.mono (by have := hbel4.size; simp; omega)))⟩
              rw [HC.out]
              rw [RdAll.total] at hown5
              exact hown5.mono (by have := hbel4.size; simp; omega)

          · have HC : Hid (encU v = encode 2 bs) := by
              show encode 2 (cont v) = _
              unfold cont
              rw [← HB3.out, if_neg (by rw [HX.out] at h128; exact fun h => h.elim hz h128)]
            clear HB3
            have hR := RdAll.lit hown.rd 22
            have hlen4 : (joined [(Value.slice (some ⟨b, off, none⟩) bs.length c9, bs)]).length ≤ 1000000000000 := by rw [RdAll.total]; omega
            go_wp2_with (go_at_call 28; refine (encode_any _ _ [(Value.slice (some ⟨b, off, none⟩) bs.length c9, bs)] _ (by simp) hlen4 (by exact hR)).mono ?_; rintro e w5 ⟨s5, rfl, hown5, hbel5⟩)
            go_ret
            refine ⟨_, rfl, ?_, hbel.trans ((Below.alloc (Below.refl _ _) (by exact hbel.size) _).trans (hbel5.mono (by have := hbel.size; simp; omega)))⟩
            rw [HC.out]
            rw [RdAll.total] at hown5
            exact hown5.mono (by have := hbel.size; simp; omega)
end Go.Proofs.Qxb6002406a
