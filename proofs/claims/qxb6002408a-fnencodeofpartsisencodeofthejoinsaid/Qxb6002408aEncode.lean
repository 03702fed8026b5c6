/-
  The walk of der.Encode (function 7).
-/
import Derived.Test.Qxb6002408aRows
import Derived.Test.Qxb6002408aBase
import Derived.Test.Qxb6002408aPlain
namespace Go.Proofs.Qxb6002408a
open Go.RowKit

theorem Try.info5 : (Try.prog.info? 5).map (fun i => (i.zero, i.size, i.bytes)) = some (some (.int .u8 0), 1, 1) := by kernel_rfl

/-- The slice of slices V reads as the parts ps: each a value and the numbers that it reads as. -/
def RdAll (w : World) (V : Value) (ps : List (Value × List Int)) : Prop :=
  (∃ ao c, V = .slice ao 0 c ∧ ps = []) ∨
  (∃ b off c, V = .slice (some ⟨b, off, none⟩) ps.length c ∧ ps.length ≤ c ∧ c ≤ maxLen ∧ b < w.heap.size ∧
    ∀ k p, ps[k]? = some p → w.cell? ⟨b, off + k, none⟩ = some p.1 ∧ Rd w p.1 p.2)

theorem Rd.form {w : World} {v : Value} {bs : List Int} (h : Rd w v bs) : ∃ ao c, v = .slice ao bs.length c := by
  rcases h with ⟨ao, c, h, rfl, _⟩ | ⟨b, off, c, h, _⟩
  · exact ⟨ao, c, h⟩
  · exact ⟨_, c, h⟩

set_option maxHeartbeats 400000 in
set_option maxRecDepth 100000 in
theorem encode_short (t : Int) (b off c : Nat) (ps : List (Value × List Int)) (w : World) (hmax : ps.length ≤ 1000000)
    (hb : b < w.heap.size) (hcell : ∀ k p, ps[k]? = some p → w.cell? ⟨b, off + k, none⟩ = some p.1 ∧ Rd w p.1 p.2)
    (htot : (joined ps).length < 128) :
    Calls Try.prog 7 #[.int .u8 t, .slice (some ⟨b, off, none⟩) ps.length c] w fun e w' => ∃ v, e = .returned v ∧ Own w' w.heap.size 5 v (encode t (joined ps)) ∧ Below w.heap.size w w' := by
  go_enter Try.func7, Try.ntmps7
  go_wp2
  go_loop [5, 15] (fun n i => ∃ k : Nat, k ≤ ps.length ∧ i = .int .i64 k ∧ n = .int .i64 (jn ps k).length) (fun _ i => ps.length - (intOf i).toNat)
  case atStart => exact ⟨0, Nat.zero_le _, rfl, by simp [jn_zero]⟩
  case round =>
    obtain ⟨k, hk, rfl, rfl⟩ := hrel
    by_cases hlt : k < ps.length
    · obtain ⟨p, hp⟩ : ∃ p, ps[k]? = some p := ⟨_, List.getElem?_eq_getElem hlt⟩
      have ⟨hc1, hr⟩ := hcell k p hp
      obtain ⟨ao, c1, hform⟩ := hr.form
      rw [hform] at hc1
      have hj1 := jn_le ps k
      have hj2 := jn_le ps (k + 1)
      have hsn := jn_succ ps k p hp
      have hlen : (jn ps k).length + p.2.length = (jn ps (k + 1)).length := by rw [hsn]; simp
      have HL : Hid ((jn ps k).length + p.2.length = (jn ps (k + 1)).length) := hlen
      have hp2 : p.2.length < 128 := by omega
      clear hsn hlen hform hr hp hcell
      go_wp2
      go_round
      case rel => exact ⟨k + 1, by omega, by go_num, by rw [← HL.out]; go_num⟩
      case measure => simp [intOf]; omega
    · have hj1 := jn_le ps k
      have hj2 : (jn ps k).length < 128 := by omega
      have hkk : k = ps.length := by omega
      have hjj : jn ps k = joined ps := by rw [hkk, jn_all]
      have HJ : Hid (jn ps k = joined ps) := hjj
      clear hjj hkk
      go_wp2_with (at_builtin; refine wpList_append_rd rfl (.tmp 28) (.tmp 31) 22 rfl w.heap.size 5 Try.underlying22 Try.info5 _ [t] rfl ?own _ [((jn ps k).length : Int)] rfl ?rd ?len ?base ?go)
      case own => exact (Own.lit w w.heap.size 5 t (Nat.le_refl _)).alloc _
      case rd => have := (Own.lit (w.alloc (.cells #[.int .u8 t] 5)) w.heap.size 5 ((jn ps k).length : Int) (by simp)).rd; simpa using this
      case base => omega
      case go =>
        intro v1 w1 hown hgrow
        have hbel : Below w.heap.size w w1 :=
          (((Below.refl _ w).alloc (Nat.le_refl _) _).alloc (by simp) _).grown hgrow (by simp; omega) (by intro q hq; simp [Value.ownBlock] at hq; omega)
        clear hgrow
        go_wp2_with fail
        go_loopw [8, 55] (fun v i wr => ∃ j : Nat, j ≤ ps.length ∧ i = .int .i64 j ∧ Own wr w.heap.size 5 v (t :: (((jn ps k).length : Int) :: jn ps j)) ∧ Below w.heap.size w wr) (fun _ i _ => ps.length - (intOf i).toNat)
        case atStart => exact ⟨0, Nat.zero_le _, rfl, by rw [jn_zero]; exact hown, hbel⟩
        case round =>
          obtain ⟨j, hj, rfl, hown, hbel⟩ := hrel
          by_cases hjl : j < ps.length
          · obtain ⟨p, hp⟩ : ∃ p, ps[j]? = some p := ⟨_, List.getElem?_eq_getElem hjl⟩
            have ⟨hc1, hr⟩ := hcell j p hp
            have hr1 := hr.below hbel (Nat.le_refl _)
            have hc2 : wr.cell? ⟨b, off + j, none⟩ = some p.1 := (hbel.cell (p := ⟨b, off + j, none⟩) hb).trans hc1
            have hsn := jn_succ ps j p hp
            have hjn := jn_le ps j
            have hjn1 := jn_le ps (j + 1)
            have hpl : p.2.length < 128 := by rw [hsn, List.length_append] at hjn1; omega
            obtain ⟨ao, c1, hform⟩ := hr.form
            rw [hform] at hc2 hr1
            have hl3 : (t :: ((jn ps k).length : Int) :: jn ps j).length + p.2.length ≤ 140737488355328 := by simp; omega
            clear hr hc1 hp hcell hform
            go_wp2_with (at_builtin; refine wpList_append_rd rfl (.tmp 59) (.tmp 60) 22 rfl w.heap.size 5 Try.underlying22 Try.info5 _ _ rfl hown _ p.2 rfl hr1 hl3 hbel.size ?go3)
            case go3 =>
              intro v2 w2 hown2 hgrow2
              have hbel2 := hbel.grown hgrow2 hbel.size (fun q hq => (hown.lt q hq).1)
              have HO : Hid (Own w2 w.heap.size 5 v2 (t :: ((jn ps k).length : Int) :: jn ps (j + 1))) := by rw [hsn]; exact hown2
              clear hgrow2 hown2 hsn hown hr1
              go_wp2
              go_roundw
              case rel => exact ⟨j + 1, by omega, by go_num, HO.out, hbel2⟩
              case measure => simp [intOf]; omega
          · have hjj : jn ps j = joined ps := by rw [show j = ps.length by omega, jn_all]
            have HO : Hid (Own wr w.heap.size 5 u8 (encode t (joined ps))) := by
              rw [HJ.out, hjj] at hown
              unfold encode lenOct
              rw [if_pos htot]
              exact hown
            clear hjj hown
            go_wp2
            go_ret
            exact ⟨_, rfl, HO.out, hbel⟩

theorem pow_step {u f : Nat} (h : u < 256 ^ (f + 1)) : u / 256 < 256 ^ f := by
  rw [Nat.pow_succ] at h
  omega

/-- A round of 'for ; v > 0; v >>= 8 { xs = append([]byte{byte(v)}, xs...) }'. -/
theorem be_round {n F f u : Nat} {bs : List Int} (h : be F n [] = be f u bs ∧ u < 256 ^ f ∧ bs.length + f = F) (hu : 0 < u) :
    ∃ f', be F n [] = be f' (u / 256) (((u % 256 : Nat) : Int) :: bs) ∧ u / 256 < 256 ^ f' ∧ (((u % 256 : Nat) : Int) :: bs).length + f' = F := by
  obtain ⟨h1, h2, h3⟩ := h
  cases f with
  | zero => simp at h2; omega
  | succ f => exact ⟨f, by rw [h1, be_succ _ _ _ hu], pow_step h2, by simp; omega⟩

set_option maxHeartbeats 400000 in
set_option maxRecDepth 100000 in
theorem encode_long (t : Int) (b off c : Nat) (ps : List (Value × List Int)) (w : World) (hmax : ps.length ≤ 1000000)
    (hb : b < w.heap.size) (hcell : ∀ k p, ps[k]? = some p → w.cell? ⟨b, off + k, none⟩ = some p.1 ∧ Rd w p.1 p.2)
    (htot : 128 ≤ (joined ps).length) (htot2 : (joined ps).length ≤ 1000000000000) :
    Calls Try.prog 7 #[.int .u8 t, .slice (some ⟨b, off, none⟩) ps.length c] w fun e w' => ∃ v, e = .returned v ∧ Own w' w.heap.size 5 v (encode t (joined ps)) ∧ Below w.heap.size w w' := by
  go_enter Try.func7, Try.ntmps7
  go_wp2
  go_loop [5, 15] (fun n i => ∃ k : Nat, k ≤ ps.length ∧ i = .int .i64 k ∧ n = .int .i64 (jn ps k).length) (fun _ i => ps.length - (intOf i).toNat)
  case atStart => exact ⟨0, Nat.zero_le _, rfl, by simp [jn_zero]⟩
  case round =>
    obtain ⟨k, hk, rfl, rfl⟩ := hrel
    by_cases hlt : k < ps.length
    · obtain ⟨p, hp⟩ : ∃ p, ps[k]? = some p := ⟨_, List.getElem?_eq_getElem hlt⟩
      have ⟨hc1, hr⟩ := hcell k p hp
      obtain ⟨ao, c1, hform⟩ := hr.form
      rw [hform] at hc1
      have hj1 := jn_le ps k
      have hj2 := jn_le ps (k + 1)
      have hsn := jn_succ ps k p hp
      have hlen : (jn ps k).length + p.2.length = (jn ps (k + 1)).length := by rw [hsn]; simp
      have HL : Hid ((jn ps k).length + p.2.length = (jn ps (k + 1)).length) := hlen
      have hp2 : p.2.length ≤ 1000000000000 := by omega
      clear hsn hlen hform hr hp hcell
      go_wp2
      go_round
      case rel => exact ⟨k + 1, by omega, by go_num, by rw [← HL.out]; go_num⟩
      case measure => simp [intOf]; omega
    · have hj1 := jn_le ps k
      have hkk : k = ps.length := by omega
      have hjj : jn ps k = joined ps := by rw [hkk, jn_all]
      have HJ : Hid (jn ps k = joined ps) := hjj
      have hj2 : 128 ≤ (jn ps k).length := by rw [hjj]; exact htot
      clear hjj hkk
      obtain ⟨n, hn⟩ : ∃ n, n = (jn ps k).length := ⟨_, rfl⟩
      rw [← hn] at hj1 hj2 ⊢
      have HN : Hid (n = (joined ps).length) := by rw [← HJ.out]; exact hn
      clear hn
      have hd : decide ((n : Int) < 128) = false := by simp; omega
      have hn2 : n ≤ 1000000000000 := by omega
      go_wp2_with fail
      go_loopw [9, 10] (fun lv i wr => ∃ (f u : Nat) (bs : List Int), i = .int .i64 u ∧ u ≤ n ∧ Hid (be 8 n [] = be f u bs ∧ u < 256 ^ f ∧ bs.length + f = 8) ∧
        Own wr (w.heap.size + 1) 5 lv bs ∧ Own wr w.heap.size 5 (.slice (some ⟨w.heap.size, 0, none⟩) 1 1) [t] ∧ Below w.heap.size w wr) (fun _ i _ => (intOf i).toNat)
      case atStart => exact ⟨8, n, [], rfl, Nat.le_refl _, ⟨rfl, Nat.lt_of_le_of_lt hn2 (by decide), rfl⟩, Own.nil _ _ _, Own.lit w w.heap.size 5 t (Nat.le_refl _), (Below.refl _ _).alloc (Nat.le_refl _) _⟩
      case round =>
        obtain ⟨f, u, bs, rfl, hun, HB, hown, hout, hbel⟩ := hrel
        have hsz : w.heap.size + 1 ≤ wr.heap.size := (hout.lt _ rfl).2
        obtain ⟨ao9, c9, hv9⟩ := hown.rd.form
        subst hv9
        by_cases hu : 0 < u
        · obtain ⟨f', HB'⟩ := be_round HB.out hu
          have HB2 : Hid (be 8 n [] = be f' (u / 256) (((u % 256 : Nat) : Int) :: bs) ∧ u / 256 < 256 ^ f' ∧ (((u % 256 : Nat) : Int) :: bs).length + f' = 8) := HB'
          have hbl : bs.length ≤ 8 := by have := HB.out.2.2; omega
          have hl2 : [((u % 256 : Nat) : Int)].length + bs.length ≤ 140737488355328 := by simp; omega
          have hO2 := Own.lit wr (w.heap.size + 1) 5 ((u % 256 : Nat) : Int) hsz
          clear HB' HB
          go_wp2_with (at_builtin; refine wpList_append_rd rfl (.tmp 40) (.tmp 41) 22 rfl (w.heap.size + 1) 5 Try.underlying22 Try.info5 _ [((u % 256 : Nat) : Int)] rfl hO2 _ bs rfl (hown.rd.alloc _) hl2 (Nat.le_trans hsz (by simp)) ?go2)
          case go2 =>
            intro v2 w2 hown2 hgrow2
            have hout2 := (hout.alloc (.cells #[.int .u8 ((u % 256 : Nat) : Int)] 5)).kept hgrow2 (.inr (by simp [Value.ownBlock]; omega))
            have hbel2 := (hbel.alloc hbel.size (.cells #[.int .u8 ((u % 256 : Nat) : Int)] 5)).grown hgrow2 (by have := hbel.size; simp; omega) (by intro q hq; simp [Value.ownBlock] at hq; have := hbel.size; omega)
            clear hgrow2 hown hO2 hout
            go_wp2
            go_roundw
            case rel => exact ⟨f', u / 256, _, by go_num, by omega, HB2, hown2, hout2, hbel2⟩
            case measure => simp [intOf]; omega
        · have HB3 : Hid (bs = be 8 n []) := by
            have h1 := HB.out.1
            rw [show u = 0 by omega, be_zero] at h1
            exact h1.symm
          have hbl : bs.length ≤ 8 := by have := HB.out.2.2; omega
          clear HB
          have hO4 := (Own.lit wr w.heap.size 5 (128 + (bs.length : Int)) hbel.size).rd
          have hl4 : [t].length + [128 + (bs.length : Int)].length ≤ 140737488355328 := by simp
          have hl5 : ([t] ++ [128 + (bs.length : Int)]).length + bs.length ≤ 140737488355328 := by simp; omega
          go_wp2_with (at_builtin; refine wpList_append_rd rfl (.tmp 43) (.tmp 48) 22 rfl w.heap.size 5 Try.underlying22 Try.info5 _ [t] rfl (hout.alloc _) _ [128 + (bs.length : Int)] rfl hO4 hl4 (Nat.le_trans hbel.size (by simp)) ?go4)
          case go4 =>
            intro v4 w4 hown4 hgrow4
            have hlv := (hown.alloc (.cells #[.int .u8 (128 + (bs.length : Int))] 5)).kept hgrow4 (by
              rcases hq : (Value.slice ao9 bs.length c9).ownBlock with _ | q
              · exact .inl rfl
              · right; have := (hown.lt q hq).1; simp [Value.ownBlock]; omega)
            have hbel4 := (hbel.alloc hbel.size (.cells #[.int .u8 (128 + (bs.length : Int))] 5)).grown hgrow4 (by have := hbel.size; simp; omega) (by intro q hq; simp [Value.ownBlock] at hq; omega)
            clear hgrow4 hown hout hO4
            go_wp2_with (at_builtin; refine wpList_append_rd rfl (.tmp 50) (.tmp 51) 22 rfl w.heap.size 5 Try.underlying22 Try.info5 _ _ rfl hown4 _ bs rfl hlv.rd hl5 hbel4.size ?go5)
            case go5 =>
              intro v5 w5 hown5 hgrow5
              have hbel5 := hbel4.grown hgrow5 hbel4.size (fun q hq => (hown4.lt q hq).1)
              have hown6 : Own w5 w.heap.size 5 v5 (t :: (128 + (bs.length : Int)) :: bs) := hown5
              clear hgrow5 hown4 hlv hown5 hbel4 hbel
              go_wp2_with fail
              go_loopw [8, 55] (fun v i wr => ∃ j : Nat, j ≤ ps.length ∧ i = .int .i64 j ∧ Own wr w.heap.size 5 v ((t :: (128 + (bs.length : Int)) :: bs) ++ jn ps j) ∧ Below w.heap.size w wr) (fun _ i _ => ps.length - (intOf i).toNat)
              case atStart => exact ⟨0, Nat.zero_le _, rfl, by rw [jn_zero, List.append_nil]; exact hown6, hbel5⟩
              case round =>
                clear hown6 hbel5
                obtain ⟨j, hj, rfl, hown, hbel⟩ := hrel
                by_cases hjl : j < ps.length
                · obtain ⟨p, hp⟩ : ∃ p, ps[j]? = some p := ⟨_, List.getElem?_eq_getElem hjl⟩
                  have ⟨hc1, hr⟩ := hcell j p hp
                  have hr1 := hr.below hbel (Nat.le_refl _)
                  have hc2 : wr.cell? ⟨b, off + j, none⟩ = some p.1 := (hbel.cell (p := ⟨b, off + j, none⟩) hb).trans hc1
                  have hsn := jn_succ ps j p hp
                  have hjn := jn_le ps j
                  have hjn1 := jn_le ps (j + 1)
                  have hpl : p.2.length ≤ 1000000000000 := by rw [hsn, List.length_append] at hjn1; omega
                  obtain ⟨ao, c1, hform⟩ := hr.form
                  rw [hform] at hc2 hr1
                  have hl3 : ((t :: (128 + (bs.length : Int)) :: bs) ++ jn ps j).length + p.2.length ≤ 140737488355328 := by simp; omega
                  clear hr hc1 hp hcell hform
                  go_wp2_with (at_builtin; refine wpList_append_rd rfl (.tmp 59) (.tmp 60) 22 rfl w.heap.size 5 Try.underlying22 Try.info5 _ _ rfl hown _ p.2 rfl hr1 hl3 hbel.size ?go6)
                  case go6 =>
                    intro v2 w2 hown2 hgrow2
                    have hbel2 := hbel.grown hgrow2 hbel.size (fun q hq => (hown.lt q hq).1)
                    have HO : Hid (Own w2 w.heap.size 5 v2 ((t :: (128 + (bs.length : Int)) :: bs) ++ jn ps (j + 1))) := by rw [hsn]; exact hown2
                    clear hgrow2 hown2 hsn hown hr1
                    go_wp2
                    go_roundw
                    case rel => exact ⟨j + 1, by omega, by go_num, HO.out, hbel2⟩
                    case measure => simp [intOf]; omega
                · have hjj : jn ps j = joined ps := by rw [show j = ps.length by omega, jn_all]
                  have HO : Hid (Own wr w.heap.size 5 u8 (encode t (joined ps))) := by
                    rw [hjj] at hown
                    unfold encode lenOct
                    rw [if_neg (by omega), ← HN.out, ← HB3.out]
                    rw [show ((128 + bs.length : Nat) : Int) = 128 + (bs.length : Int) by omega]
                    exact hown
                  clear hjj hown
                  go_wp2
                  go_ret
                  exact ⟨_, rfl, HO.out, hbel⟩

set_option maxHeartbeats 400000 in
set_option maxRecDepth 100000 in
theorem encode_none (t : Int) (ao : Option Addr) (c : Nat) (w : World) :
    Calls Try.prog 7 #[.int .u8 t, .slice ao 0 c] w fun e w' => ∃ v, e = .returned v ∧ Own w' w.heap.size 5 v (encode t []) ∧ Below w.heap.size w w' := by
  go_enter Try.func7, Try.ntmps7
  go_wp2
  refine wp_loop_rounds 1 ?_
  rw [rounds_succ]
  go_wp2_with (at_builtin; refine wpList_append_rd rfl (.tmp 28) (.tmp 31) 22 rfl w.heap.size 5 Try.underlying22 Try.info5 _ [t] rfl ?own _ [0] rfl ?rd ?len ?base ?go)
  case own => exact (Own.lit w w.heap.size 5 t (Nat.le_refl _)).alloc _
  case rd => have := (Own.lit (w.alloc (.cells #[.int .u8 t] 5)) w.heap.size 5 0 (by simp)).rd; simp only [World.size_alloc] at this; exact this
  case len => simp
  case base => simp; omega
  case go =>
    intro v1 w1 hown hgrow
    have hbel : Below w.heap.size w w1 :=
      (((Below.refl _ w).alloc (Nat.le_refl _) _).alloc (by simp) _).grown hgrow (by simp; omega) (by intro q hq; simp [Value.ownBlock] at hq; omega)
    clear hgrow
    go_wp2_with fail
    refine wp_loop_rounds 1 ?_
    rw [rounds_succ]
    go_wp2
    go_ret
    exact ⟨_, rfl, hown, hbel⟩

/-- der.Encode, whatever the parts. -/
theorem encode_any (t : Int) (V : Value) (ps : List (Value × List Int)) (w : World) (hmax : ps.length ≤ 1000000) (htot : (joined ps).length ≤ 1000000000000) (hV : RdAll w V ps) :
    Calls Try.prog 7 #[.int .u8 t, V] w fun e w' => ∃ v, e = .returned v ∧ Own w' w.heap.size 5 v (encode t (joined ps)) ∧ Below w.heap.size w w' := by
  rcases hV with ⟨ao, c, rfl, rfl⟩ | ⟨b, off, c, rfl, _, _, hb, hcell⟩
  · exact encode_none t ao c w
  · by_cases h : (joined ps).length < 128
    · exact encode_short t b off c ps w hmax hb hcell h
    · exact encode_long t b off c ps w hmax hb hcell (by omega) htot
end Go.Proofs.Qxb6002408a
