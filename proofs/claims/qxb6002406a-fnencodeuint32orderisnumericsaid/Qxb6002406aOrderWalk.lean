/-
  The walk of FnEncodeUint32OrderIsNumeric (function 5).
-/
import Derived.Test.Qxb6002406aEncU
import Derived.Test.Qxb6002406aCmp
import Derived.Test.Qxb6002406aOrd
namespace Go.Proofs.Qxb6002406a
open Go.RowKit

theorem encU_length (v : Nat) (h : v < 4294967296) : 3 ≤ (encU v).length ∧ (encU v).length ≤ 7 := by
  obtain ⟨k, hk⟩ := shape v h
  rcases hk with ⟨_, _, e⟩ | ⟨_, _, _, e⟩ | ⟨_, _, _, e⟩ | ⟨_, _, _, e⟩ | ⟨_, _, _, e⟩ <;> rw [e] <;> simp

theorem Rd.pos {w : World} {v : Value} {bs : List Int} (h : Rd w v bs) (hp : 0 < bs.length) :
    ∃ b off c, v = .slice (some ⟨b, off, none⟩) bs.length c ∧ bs.length ≤ c ∧ c ≤ maxLen ∧ b < w.heap.size ∧ ∀ j, j < bs.length → w.cell? ⟨b, off + j, none⟩ = some (.int .u8 (bs.getD j 0)) := by
  rcases h with ⟨_, _, _, rfl, _⟩ | ⟨b, off, c, h1, h2, h3, h4, h5, h6⟩
  · simp at hp
  · exact ⟨b, off, c, h1, h3, h4, h5, h6⟩

/-- compareBytes on two values that read as non-empty lists. -/
theorem cmp_rd (x y : Value) (A B : List Int) (w : World) (hx : Rd w x A) (hy : Rd w y B) (hA : 0 < A.length) (hB : 0 < B.length) (hlA : A.length ≤ 1000000) (hlB : B.length ≤ 1000000) :
    Calls Try.prog 16 #[x, y] w fun e w' => e = .returned (.int .i64 (cmp A B)) ∧ Below w.heap.size w w' := by
  obtain ⟨ba, oa, ca, rfl, _, _, _, hcA⟩ := hx.pos hA
  obtain ⟨bb, ob, cb, rfl, _, _, _, hcB⟩ := hy.pos hB
  refine (cmp_any A B ba oa ca bb ob cb w hA hB hlA hlB hcA hcB).mono ?_
  rintro e w' ⟨rfl, n, rfl⟩
  exact ⟨rfl, below_drewN (Below.refl _ _) n⟩

set_option maxHeartbeats 400000 in
set_option maxRecDepth 100000 in
theorem orderWalk (a b : Nat) (ha : a < 4294967296) (hb : b < 4294967296) (w : World) :
    Calls Try.prog 5 #[.int .u32 a, .int .u32 b] w fun e w' => e = .returned (.bool true) ∧ Below w.heap.size w w' := by
  have hord := order a b ha hb
  obtain ⟨c, hc⟩ : ∃ c, c = cmp (encU a) (encU b) := ⟨_, rfl⟩
  rw [← hc] at hord
  have HC : Hid (c = cmp (encU a) (encU b)) := hc
  have HO : Hid (SignOf a b c) := hord
  have la := encU_length a ha
  have lb := encU_length b hb
  clear hc hord
  go_enter Try.func5, Try.ntmps5
  go_wp2_with fail
  refine (encU_any a w ha).mono ?_
  rintro e w1 ⟨s1, rfl, hown1, hbel1⟩
  go_wp2_with fail
  refine (encU_any b w1 hb).mono ?_
  rintro e w2 ⟨s2, rfl, hown2, hbel2⟩
  go_wp2_with fail
  refine (cmp_rd s1 s2 (encU a) (encU b) w2 (hown1.rd.below hbel2 (Nat.le_refl _)) hown2.rd (by omega) (by omega) (by omega) (by omega)).mono ?_
  rintro e w3 ⟨rfl, hbel3⟩
  have hb3 : Below w.heap.size w w3 := hbel1.trans ((hbel2.mono hbel1.size).trans (hbel3.mono (Nat.le_trans hbel1.size hbel2.size)))
  rw [← HC.out]
  clear hown1 hown2 la lb hbel1 hbel2 hbel3
  rcases Nat.lt_trichotomy a b with h | h | h
  · have h1 : c < 0 := HO.out.1 h
    go_wp2
    go_ret
    exact ⟨rfl, hb3⟩
  · have h1 : c = 0 := HO.out.2.2 h
    subst h
    subst h1
    go_wp2
    go_ret
    exact ⟨rfl, hb3⟩
  · have h1 : 0 < c := HO.out.2.1 h
    go_wp2
    go_ret
    exact ⟨rfl, hb3⟩
end Go.Proofs.Qxb6002406a
