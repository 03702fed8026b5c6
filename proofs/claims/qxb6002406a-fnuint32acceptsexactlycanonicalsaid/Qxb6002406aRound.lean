/-
  The plain law of the round trip: what EncodeUint32's contents are to checkInteger and Uint32; and the walk of FnEncodeUint32RoundTrip (4).
-/
import Derived.Test.Qxb6002406aEncU
import Derived.Test.Qxb6002406aOrd
import Derived.Test.Qxb6002406aU32
namespace Go.Proofs.Qxb6002406a
open Go.RowKit

theorem bytes_of (l : List Int) (h : ∀ x ∈ l, 0 ≤ x ∧ x ≤ 255) : Bytes l := by
  intro j hj
  have := h (l.getD j 0) (by simp [List.getD, hj])
  exact this

/-- The contents are five lists of literal length. -/
theorem cont_shape (v : Nat) (h : v < 4294967296) :
    (v < 128 ∧ cont v = [(v : Int)]) ∨
    (128 ≤ v ∧ v < 32768 ∧ cont v = [((v / 256 : Nat) : Int), ((v % 256 : Nat) : Int)]) ∨
    (32768 ≤ v ∧ v < 8388608 ∧ cont v = [((v / 65536 : Nat) : Int), ((v / 256 % 256 : Nat) : Int), ((v % 256 : Nat) : Int)]) ∨
    (8388608 ≤ v ∧ v < 2147483648 ∧ cont v = [((v / 16777216 : Nat) : Int), ((v / 65536 % 256 : Nat) : Int), ((v / 256 % 256 : Nat) : Int), ((v % 256 : Nat) : Int)]) ∨
    (2147483648 ≤ v ∧ cont v = [0, ((v / 16777216 : Nat) : Int), ((v / 65536 % 256 : Nat) : Int), ((v / 256 % 256 : Nat) : Int), ((v % 256 : Nat) : Int)]) := by
  by_cases h1 : v < 128
  · exact .inl ⟨h1, cont1 v h1⟩
  by_cases h2 : v < 32768
  · exact .inr (.inl ⟨by omega, h2, cont2 v (by omega) h2⟩)
  by_cases h3 : v < 8388608
  · exact .inr (.inr (.inl ⟨by omega, h3, cont3 v (by omega) h3⟩))
  by_cases h4 : v < 2147483648
  · exact .inr (.inr (.inr (.inl ⟨by omega, h4, cont4 v (by omega) h4⟩)))
  · exact .inr (.inr (.inr (.inr ⟨by omega, cont5 v (by omega) h⟩)))

theorem cont_bytes (v : Nat) (h : v < 4294967296) : Bytes (cont v) := by
  refine bytes_of _ fun x hx => ?_
  rcases cont_shape v h with ⟨_, e⟩ | ⟨_, _, e⟩ | ⟨_, _, e⟩ | ⟨_, _, e⟩ | ⟨_, e⟩ <;> rw [e] at hx <;> simp only [List.mem_cons, List.not_mem_nil, or_false] at hx <;> omega

theorem cont_length (v : Nat) (h : v < 4294967296) : 1 ≤ (cont v).length ∧ (cont v).length ≤ 5 := by
  rcases cont_shape v h with ⟨_, e⟩ | ⟨_, _, e⟩ | ⟨_, _, e⟩ | ⟨_, _, e⟩ | ⟨_, e⟩ <;> rw [e] <;> simp

theorem cont_chk (v : Nat) (h : v < 4294967296) : chk (cont v) = true := by
  rcases cont_shape v h with ⟨_, e⟩ | ⟨_, _, e⟩ | ⟨_, _, e⟩ | ⟨_, _, e⟩ | ⟨_, e⟩ <;> rw [e] <;> simp [chk] <;> omega

theorem cont_val (v : Nat) (h : v < 4294967296) :
    (∃ rs, cont v = 0 :: rs ∧ rs.length ≤ 4 ∧ val rs = v) ∨ (¬ (cont v).getD 0 0 = 0 ∧ (cont v).getD 0 0 < 128 ∧ (cont v).length ≤ 4 ∧ val (cont v) = v) := by
  rcases cont_shape v h with ⟨h1, e⟩ | ⟨h0, h1, e⟩ | ⟨h0, h1, e⟩ | ⟨h0, h1, e⟩ | ⟨h0, e⟩
  · by_cases hz : v = 0
    · subst hz; exact .inl ⟨[], by rw [e]; rfl, by simp, by simp [val]⟩
    · right; rw [e]; simp [val]; omega
  · by_cases hz : v / 256 = 0
    · left; exact ⟨_, by rw [e, hz]; rfl, by simp, by simp [val]; omega⟩
    · right; rw [e]; simp [val]; omega
  · by_cases hz : v / 65536 = 0
    · left; exact ⟨_, by rw [e, hz]; rfl, by simp, by simp [val]; omega⟩
    · right; rw [e]; simp [val]; omega
  · by_cases hz : v / 16777216 = 0
    · left; exact ⟨_, by rw [e, hz]; rfl, by simp, by simp [val]; omega⟩
    · right; rw [e]; simp [val]; omega
  · left; exact ⟨_, e, by simp, by simp [val]; omega⟩

theorem bytes_tail {x : Int} {rs : List Int} (h : Bytes (x :: rs)) : Bytes rs := by
  intro j hj
  have := h (j + 1) (by simp; omega)
  simpa using this

/-- Uint32 of EncodeUint32's contents. -/
theorem u32_cont (v : Nat) (hv : v < 4294967296) (x : Value) (w : World) (hr : Rd w x (cont v)) :
    Calls Try.prog 12 #[x] w fun e w' => e = .returned (.tuple #[.int .u32 v, .nilIface]) ∧ w = w' := by
  have hk := cont_chk v hv
  have hb := cont_bytes v hv
  have hl := cont_length v hv
  obtain ⟨b, off, c, rfl, h1, h2, h3, h4⟩ := hr.pos (by omega)
  rcases cont_val v hv with ⟨rs, e, h5, h6⟩ | ⟨h5, h6, h7, h8⟩
  · rw [e] at hb hk h4 h1 ⊢
    rw [← h6]
    exact u32_zero rs b off c w h4 h5 (bytes_tail hb) hk h1 h2 h3
  · have := u32_plain (cont v) b off c w h4 h7 (by omega) hb hk h6 h5 h1 h2 h3
    rw [h8] at this
    exact this

theorem encU_form (v : Nat) (h : v < 4294967296) : encU v = 2 :: ((cont v).length : Int) :: cont v := by
  have := cont_length v h
  unfold encU encode lenOct
  rw [if_pos (by omega)]
  rfl

set_option maxHeartbeats 400000 in
set_option maxRecDepth 100000 in
theorem roundWalk (v : Nat) (hv : v < 4294967296) (w : World) :
    Calls Try.prog 4 #[.int .u32 v] w fun e w' => e = .returned (.bool true) ∧ Below w.heap.size w w' := by
  have hl := cont_length v hv
  have hk := cont_chk v hv
  go_enter Try.func4, Try.ntmps4
  go_wp2_with fail
  refine (encU_any v w hv).mono ?_
  rintro e w1 ⟨s1, rfl, hown, hbel⟩
  have hform := encU_form v hv
  obtain ⟨L, hL⟩ : ∃ L, L = cont v := ⟨_, rfl⟩
  rw [← hL] at hform hl hk
  rw [hform] at hown
  have HL : Hid (L = cont v) := hL
  clear hform hL
  obtain ⟨b, off, c, hs1, hlc, hcm, hb, hc⟩ := hown.rd.pos (by simp)
  simp only [List.length_cons] at hs1 hlc hc
  subst hs1
  have c0 : w1.cell? ⟨b, off, none⟩ = some (.int .u8 2) := hc 0 (by omega)
  have c1 : w1.cell? ⟨b, off + 1, none⟩ = some (.int .u8 (L.length : Int)) := hc 1 (by omega)
  have hrc : Rd w1 (.slice (some ⟨b, off + 2, none⟩) L.length (c - 2)) L := by
    refine .inr ⟨b, off + 2, c - 2, rfl, by omega, by omega, by omega, hb, fun j hj => ?_⟩
    have := hc (j + 2) (by omega)
    rw [show off + 2 + j = off + (j + 2) by omega, this]
    simp
  clear hc hown
  unfold maxLen at hcm
  have hc2 : ¬ c = 2 := by omega
  go_wp2_with (first
    | (go_at_call 15; refine (zzcheck_ok _ L _ hrc (by omega) hk).mono ?_; rintro e w2 ⟨rfl, rfl⟩)
    | (go_at_call 12; refine (u32_cont v hv _ _ (by rw [← HL.out]; exact hrc)).mono ?_; rintro e w2 ⟨rfl, rfl⟩))
  go_ret
  exact ⟨rfl, hbel⟩
end Go.Proofs.Qxb6002406a
