/-
  The walks of errors.New (27), checkInteger (26), ZZCheckInteger (15).
-/
import Derived.Test.Qxb6002406aRows
import Derived.Test.Qxb6002406aBase
namespace Go.Proofs.Qxb6002406a
open Go.RowKit

set_option maxHeartbeats 400000 in
theorem new_any (s : ByteArray) (w : World) :
    Calls Try.prog 27 #[.string s] w fun e w' => ∃ a, e = .returned (.iface 47 (.pointer (some a))) ∧ Below w.heap.size w w' := by
  go_enter Try.func27, Try.ntmps27
  go_wp2
  go_ret
  exact ⟨_, rfl, (Below.refl _ _).alloc (Nat.le_refl _) _⟩

theorem Rd.pos {w : World} {v : Value} {bs : List Int} (h : Rd w v bs) (hp : 0 < bs.length) :
    ∃ b off c, v = .slice (some ⟨b, off, none⟩) bs.length c ∧ bs.length ≤ c ∧ c ≤ maxLen ∧ b < w.heap.size ∧ ∀ j, j < bs.length → w.cell? ⟨b, off + j, none⟩ = some (.int .u8 (bs.getD j 0)) := by
  rcases h with ⟨_, _, _, rfl, _⟩ | ⟨b, off, c, h1, h2, h3, h4, h5, h6⟩
  · simp at hp
  · exact ⟨b, off, c, h1, h3, h4, h5, h6⟩

/-- checkInteger accepts. -/
def chk (bs : List Int) : Bool :=
  decide (0 < bs.length) && !(decide (1 < bs.length) && (decide (bs.getD 0 0 = 0 ∧ bs.getD 1 0 < 128) || decide (bs.getD 0 0 = 255 ∧ 128 ≤ bs.getD 1 0)))

theorem chk_true {bs : List Int} (h : chk bs = true) : 0 < bs.length ∧ (1 < bs.length → ¬ (bs.getD 0 0 = 0 ∧ bs.getD 1 0 < 128) ∧ ¬ (bs.getD 0 0 = 255 ∧ 128 ≤ bs.getD 1 0)) := by
  simp only [chk, Bool.and_eq_true, decide_eq_true_eq, Bool.not_eq_true', Bool.and_eq_false_iff, Bool.or_eq_false_iff, decide_eq_false_iff_not] at h
  refine ⟨h.1, fun h1 => ?_⟩
  rcases h.2 with h2 | h2
  · exact absurd h1 h2
  · exact h2
theorem chk_false {bs : List Int} (h : chk bs = false) : bs.length = 0 ∨ (1 < bs.length ∧ ((bs.getD 0 0 = 0 ∧ bs.getD 1 0 < 128) ∨ (bs.getD 0 0 = 255 ∧ 128 ≤ bs.getD 1 0))) := by
  simp only [chk, Bool.and_eq_false_iff, decide_eq_false_iff_not, Bool.not_eq_false', Bool.and_eq_true, decide_eq_true_eq, Bool.or_eq_true] at h
  rcases h with h | h
  · exact .inl (by omega)
  · exact .inr h

set_option maxHeartbeats 400000 in
set_option maxRecDepth 100000 in
theorem check_ok (v : Value) (bs : List Int) (w : World) (hv : Rd w v bs) (hl : bs.length ≤ 1000000) (h : chk bs = true) :
    Calls Try.prog 26 #[v] w fun e w' => e = .returned .nilIface ∧ w = w' := by
  obtain ⟨hp, h2⟩ := chk_true h
  obtain ⟨b, off, c, rfl, _, _, _, hc⟩ := hv.pos hp
  have hne : ((bs.length : Int) == 0) = false := beq_eq_false_iff_ne.2 (by omega)
  by_cases h1 : 1 < bs.length
  · obtain ⟨g1, g2⟩ := h2 h1
    obtain ⟨x, hx⟩ : ∃ x, x = bs.getD 0 0 := ⟨_, rfl⟩
    obtain ⟨y, hy⟩ : ∃ y, y = bs.getD 1 0 := ⟨_, rfl⟩
    have c0 : w.cell? ⟨b, off, none⟩ = some (.int .u8 x) := by rw [hx]; exact hc 0 hp
    have c1 : w.cell? ⟨b, off + 1, none⟩ = some (.int .u8 y) := by rw [hy]; exact hc 1 h1
    rw [← hx, ← hy] at g1 g2
    clear hx hy hc h h2
    by_cases e0 : x = 0
    · have e1 : ¬ y < 128 := fun k => g1 ⟨e0, k⟩
      subst e0
      go_enter Try.func26, Try.ntmps26
      go_wp2
      go_ret
      exact ⟨rfl, rfl⟩
    · have e0' : (x == 0) = false := by simp [e0]
      by_cases e2 : x = 255
      · have e1 : ¬ 128 ≤ y := fun k => g2 ⟨e2, k⟩
        subst e2
        go_enter Try.func26, Try.ntmps26
        go_wp2
        go_ret
        exact ⟨rfl, rfl⟩
      · have e2' : (x == 255) = false := by simp [e2]
        clear g1 g2 e0 e2
        go_enter Try.func26, Try.ntmps26
        go_wp2
        go_ret
        exact ⟨rfl, rfl⟩
  · go_enter Try.func26, Try.ntmps26
    go_wp2
    go_ret
    exact ⟨rfl, rfl⟩

set_option maxHeartbeats 400000 in
set_option maxRecDepth 100000 in
theorem check_bad (v : Value) (bs : List Int) (w : World) (hv : Rd w v bs) (hl : bs.length ≤ 1000000) (h : chk bs = false) :
    Calls Try.prog 26 #[v] w fun e w' => ∃ a, e = .returned (.iface 47 (.pointer (some a))) ∧ Below w.heap.size w w' := by
  rcases chk_false h with h0 | ⟨h1, h2⟩
  · obtain ⟨ao, c, rfl⟩ : ∃ ao c, v = .slice ao 0 c := by
      rcases hv with ⟨ao, c, h, _⟩ | ⟨b, off, c, _, hp, _⟩
      · exact ⟨ao, c, h⟩
      · omega
    clear h hl hv h0
    go_enter Try.func26, Try.ntmps26
    go_wp2_with (go_at_call 27; refine (new_any _ _).mono ?_; rintro e w1 ⟨a, rfl, hbel⟩)
    go_ret
    exact ⟨_, rfl, hbel⟩
  · obtain ⟨b, off, c, rfl, _, _, _, hc⟩ := hv.pos (by omega)
    have hne : ((bs.length : Int) == 0) = false := beq_eq_false_iff_ne.2 (by omega)
    obtain ⟨x, hx⟩ : ∃ x, x = bs.getD 0 0 := ⟨_, rfl⟩
    obtain ⟨y, hy⟩ : ∃ y, y = bs.getD 1 0 := ⟨_, rfl⟩
    have c0 : w.cell? ⟨b, off, none⟩ = some (.int .u8 x) := by rw [hx]; exact hc 0 (by omega)
    have c1 : w.cell? ⟨b, off + 1, none⟩ = some (.int .u8 y) := by rw [hy]; exact hc 1 h1
    rw [← hx, ← hy] at h2
    clear hx hy hc h hv
    rcases h2 with ⟨e0, e1⟩ | ⟨e0, e1⟩
    · subst e0
      go_enter Try.func26, Try.ntmps26
      go_wp2_with (go_at_call 27; refine (new_any _ _).mono ?_; rintro e w1 ⟨a, rfl, hbel⟩)
      go_ret
      exact ⟨_, rfl, hbel⟩
    · subst e0
      go_enter Try.func26, Try.ntmps26
      go_wp2_with (go_at_call 27; refine (new_any _ _).mono ?_; rintro e w1 ⟨a, rfl, hbel⟩)
      go_ret
      exact ⟨_, rfl, hbel⟩

set_option maxHeartbeats 400000 in
theorem zzcheck_ok (v : Value) (bs : List Int) (w : World) (hv : Rd w v bs) (hl : bs.length ≤ 1000000) (h : chk bs = true) :
    Calls Try.prog 15 #[v] w fun e w' => e = .returned .nilIface ∧ w = w' := by
  go_enter Try.func15, Try.ntmps15
  go_wp2_with (go_at_call 26; refine (check_ok _ bs _ hv hl h).mono ?_; rintro e w1 ⟨rfl, rfl⟩)
  go_ret
  exact ⟨rfl, rfl⟩

set_option maxHeartbeats 400000 in
theorem zzcheck_bad (v : Value) (bs : List Int) (w : World) (hv : Rd w v bs) (hl : bs.length ≤ 1000000) (h : chk bs = false) :
    Calls Try.prog 15 #[v] w fun e w' => ∃ a, e = .returned (.iface 47 (.pointer (some a))) ∧ Below w.heap.size w w' := by
  go_enter Try.func15, Try.ntmps15
  go_wp2_with (go_at_call 26; refine (check_bad _ bs _ hv hl h).mono ?_; rintro e w1 ⟨a, rfl, hbel⟩)
  go_ret
  exact ⟨_, rfl, hbel⟩
end Go.Proofs.Qxb6002406a
