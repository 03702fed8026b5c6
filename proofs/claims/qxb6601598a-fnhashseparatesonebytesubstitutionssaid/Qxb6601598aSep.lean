/-
  The walk of FnHashSeparatesOneByteSubstitutions (4).
-/
import Derived.Test.Qxb6601598aHash
import Derived.Test.Qxb6601598aArg
namespace Go.Proofs.Qxb6601598a
open Go.RowKit

set_option maxHeartbeats 400000 in
theorem zz9_yes (ao : Option Addr) (n c : Nat) (i x : Int) (w : World) (h : n ≤ 1048576) : Calls Try.prog 9 #[.slice ao n c, .int .i64 i, .int .u8 x] w fun e w' => e = .returned (.bool true) ∧ w = w' := by
  go_enter Try.func9, Try.ntmps9
  go_wp2
  go_ret
  exact ⟨rfl, rfl⟩

set_option maxHeartbeats 400000 in
theorem zz9_no (ao : Option Addr) (n c : Nat) (i x : Int) (w : World) (h : 1048576 < n) : Calls Try.prog 9 #[.slice ao n c, .int .i64 i, .int .u8 x] w fun e w' => e = .returned (.bool false) ∧ w = w' := by
  go_enter Try.func9, Try.ntmps9
  go_wp2
  go_ret
  exact ⟨rfl, rfl⟩

/-- layout.Hash of a slice that is not empty. -/
theorem hash_rd (v : Value) (bs : List Int) (hby : ∀ x ∈ bs, 0 ≤ x ∧ x ≤ 255) (w : World) (hr : Rd w v bs) (hp : 0 < bs.length) (hl : bs.length ≤ 1048576) :
    Calls Try.prog 8 #[v] w fun e w' => e = .returned (.int .u64 ((hashL bs : Nat) : Int)) ∧ w = w' := by
  obtain ⟨b, off, c, rfl, _, _, _, hc⟩ := hr.pos hp
  exact hash_pos bs hby b off c w hc hp hl

theorem Own.spot {w : World} {base : Nat} {e : TypeId} {v : Value} {bs : List Int} (h : Own w base e v bs) (hp : 0 < bs.length) : ∃ g cap, v = .slice (some ⟨g, 0, none⟩) bs.length cap ∧ base ≤ g ∧ g < w.heap.size := by
  rcases h.2 with ⟨_, hn⟩ | ⟨g, cap, cur, rfl, hb, hg, _⟩
  · omega
  · exact ⟨g, cap, rfl, hb, (Array.getElem?_eq_some_iff.1 hg).1⟩

set_option maxHeartbeats 400000 in
set_option maxRecDepth 100000 in
theorem sepMain (ao : Option Addr) (len cap : Nat) (bs : List Int) (hby : ∀ x ∈ bs, 0 ≤ x ∧ x ≤ 255) (k : Nat) (c : Int) (hcb : 0 ≤ c ∧ c ≤ 255) (w : World) (hr : Rd w (.slice ao len cap) bs) (hlen : bs.length = len) (hl : len ≤ 1048576)
    (hk : k < len) (hne : ¬ bs.getD k 0 = c) :
    Calls Try.prog 4 #[.slice ao len cap, .int .i64 k, .int .u8 c] w fun e w' => e = .returned (.bool true) ∧ Below w.heap.size w w' := by
  subst hlen
  obtain ⟨b, off, c0, hv, _, _, _, hc⟩ := hr.pos (by omega)
  have hne2 := hash_parts bs hby k hk c hcb hne
  have hset : ∀ x ∈ bs.set k c, 0 ≤ x ∧ x ≤ 255 := by
    intro x hx
    rcases List.mem_or_eq_of_mem_set hx with h | h
    · exact hby x h
    · rw [h]; exact hcb
  rw [hv] at hr ⊢
  obtain ⟨x, hx⟩ : ∃ x, x = bs.getD k 0 := ⟨_, rfl⟩
  have ck : w.cell? ⟨b, off + k, none⟩ = some (.int .u8 x) := by rw [hx]; exact hc k hk
  have hxc : (x == c) = false := by rw [hx]; exact beq_eq_false_iff_ne.2 hne
  clear hc hx hne hv
  go_enter Try.func4, Try.ntmps4
  go_wp2_with (first
    | (go_at_call 9; refine (zz9_yes _ _ _ _ _ _ (by omega)).mono ?_; rintro e w1 ⟨rfl, rfl⟩)
    | (go_at_call 6; refine Hid.out ?_))
  unfold Hid
  refine (clone_any _ bs _ hr (by omega)).mono ?_
  rintro e w1 ⟨v1, rfl, hown1, hbel1⟩
  go_wp2_with (go_at_call 6; refine Hid.out ?_)
  unfold Hid
  refine (clone_any _ bs _ hown1.rd (by omega)).mono ?_
  rintro e w2 ⟨v2, rfl, hown2, hbel2⟩
  obtain ⟨g, cp, hv2, hg1, hg2⟩ := hown2.spot (by omega)
  subst hv2
  have cg := hown2.cell rfl k hk
  have fg := hown2.frozen rfl k
  have hst := hown2.stored rfl k c
  have hb3 := hbel2.grown hst.2 hbel2.size (fun q hq => by cases hq; exact hg1)
  have hr1 := hown1.rd.below hb3 (Nat.le_refl _)
  have hr2 := hst.1.rd
  have hb := hbel1.trans (hb3.mono hbel1.size)
  have hsl : (bs.set k c).length = bs.length := List.length_set
  have hl2 : 0 < (bs.set k c).length := by omega
  have hl3 : (bs.set k c).length ≤ 1048576 := by omega
  have Hne : Hid (¬ hashL bs = hashL (bs.set k c)) := hne2
  obtain ⟨old, hold⟩ : ∃ old, old = bs.getD k 0 := ⟨_, rfl⟩
  rw [← hold] at cg
  clear hst hown1 hown2 hbel1 hbel2 hb3 hr hne2 hold hsl
  have k1 := hash_rd v1 bs hby _ hr1 (by omega) (by omega)
  have k2 := hash_rd _ (bs.set k c) hset _ hr2 hl2 hl3
  obtain ⟨p, hp⟩ : ∃ p, p = hashL bs := ⟨_, rfl⟩
  obtain ⟨q, hq⟩ : ∃ q, q = hashL (bs.set k c) := ⟨_, rfl⟩
  rw [← hp] at k1
  rw [← hq] at k2
  have hpq : ((p : Int) != (q : Int)) = true := by
    rw [bne_iff_ne]
    intro h
    exact Hne.out (by omega)
  have K1 : Hid (Calls Try.prog 8 #[v1] (w2.setCell ⟨g, k, none⟩ (.int .u8 c)) fun e w' => e = .returned (.int .u64 (p : Int)) ∧ w2.setCell ⟨g, k, none⟩ (.int .u8 c) = w') := k1
  have K2 : Hid (Calls Try.prog 8 #[.slice (some ⟨g, 0, none⟩) bs.length cp] (w2.setCell ⟨g, k, none⟩ (.int .u8 c)) fun e w' => e = .returned (.int .u64 (q : Int)) ∧ w2.setCell ⟨g, k, none⟩ (.int .u8 c) = w') := k2
  clear k1 k2 hp hq Hne hr1 hr2 hl2 hl3 hset hby
  go_wp2_with (go_at_call 8; refine Hid.out ?_)
  unfold Hid
  refine K1.out.mono ?_
  rintro e w3 ⟨rfl, rfl⟩
  go_wp2_with (go_at_call 8; refine Hid.out ?_)
  unfold Hid
  refine K2.out.mono ?_
  rintro e w3 ⟨rfl, rfl⟩
  go_wp2
  go_ret
  exact ⟨rfl, hb⟩

set_option maxHeartbeats 400000 in
set_option maxRecDepth 100000 in
theorem sepWalk (ao : Option Addr) (len cap : Nat) (bs : List Int) (hby : ∀ x ∈ bs, 0 ≤ x ∧ x ≤ 255) (i c : Int) (hcb : 0 ≤ c ∧ c ≤ 255) (w : World) (hr : Rd w (.slice ao len cap) bs) (hlen : bs.length = len) (hmax : len ≤ maxLen) :
    Calls Try.prog 4 #[.slice ao len cap, .int .i64 i, .int .u8 c] w fun e w' => e = .returned (.bool true) ∧ Below w.heap.size w w' := by
  unfold maxLen at hmax
  by_cases h20 : 1048576 < len
  · go_enter Try.func4, Try.ntmps4
    go_wp2_with (go_at_call 9; refine (zz9_no _ _ _ _ _ _ h20).mono ?_; rintro e w1 ⟨rfl, rfl⟩)
    go_ret
    exact ⟨rfl, Below.refl _ _⟩
  by_cases hneg : i < 0
  · go_enter Try.func4, Try.ntmps4
    go_wp2_with (go_at_call 9; refine (zz9_yes _ _ _ _ _ _ (by omega)).mono ?_; rintro e w1 ⟨rfl, rfl⟩)
    go_ret
    exact ⟨rfl, Below.refl _ _⟩
  by_cases hbig : (len : Int) ≤ i
  · go_enter Try.func4, Try.ntmps4
    go_wp2_with (go_at_call 9; refine (zz9_yes _ _ _ _ _ _ (by omega)).mono ?_; rintro e w1 ⟨rfl, rfl⟩)
    go_ret
    exact ⟨rfl, Below.refl _ _⟩
  obtain ⟨k, rfl⟩ := Int.eq_ofNat_of_zero_le (show 0 ≤ i by omega)
  by_cases he : bs.getD k 0 = c
  · subst hlen
    obtain ⟨b, off, c0, hv, _, _, _, hc⟩ := hr.pos (by omega)
    rw [hv]
    have ck : w.cell? ⟨b, off + k, none⟩ = some (.int .u8 c) := by rw [← he]; exact hc k (by omega)
    clear hc hv hr he hby
    go_enter Try.func4, Try.ntmps4
    go_wp2_with (go_at_call 9; refine (zz9_yes _ _ _ _ _ _ (by omega)).mono ?_; rintro e w1 ⟨rfl, rfl⟩)
    go_ret
    exact ⟨rfl, Below.refl _ _⟩
  · exact sepMain ao len cap bs hby k c hcb w hr hlen (by omega) (by omega) he
end Go.Proofs.Qxb6601598a
