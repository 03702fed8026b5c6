/-
  The walk of FnEncodeOfPartsIsEncodeOfTheJoin (3).
-/
import Derived.Test.Qxb6002408aFresh
import Derived.Test.Qxb6002408aEq
import Derived.Test.Qxb6002408aArg
namespace Go.Proofs.Qxb6002408a
open Go.RowKit

set_option maxHeartbeats 400000 in
theorem zz5_yes (t : Int) (a1 : Option Addr) (n1 c1 : Nat) (a2 : Option Addr) (n2 c2 : Nat) (w : World) (h : n1 + n2 ≤ 1048576) :
    Calls Try.prog 5 #[.int .u8 t, .slice a1 n1 c1, .slice a2 n2 c2] w fun e w' => e = .returned (.bool true) ∧ w = w' := by
  go_enter Try.func5, Try.ntmps5
  go_wp2
  go_ret
  exact ⟨rfl, rfl⟩

set_option maxHeartbeats 400000 in
theorem zz5_no (t : Int) (a1 : Option Addr) (n1 c1 : Nat) (a2 : Option Addr) (n2 c2 : Nat) (w : World) (h : 1048576 < n1 + n2) :
    Calls Try.prog 5 #[.int .u8 t, .slice a1 n1 c1, .slice a2 n2 c2] w fun e w' => e = .returned (.bool false) ∧ w = w' := by
  by_cases h1 : 1048576 < n1
  · go_enter Try.func5, Try.ntmps5
    go_wp2
    go_ret
    exact ⟨rfl, rfl⟩
  · by_cases h2 : 1048576 < n2
    · go_enter Try.func5, Try.ntmps5
      go_wp2
      go_ret
      exact ⟨rfl, rfl⟩
    · go_enter Try.func5, Try.ntmps5
      go_wp2
      go_ret
      exact ⟨rfl, rfl⟩

/-- Parts in a slice literal just built. -/
theorem RdAll.lits {w : World} (ps : List (Value × List Int)) (h : ∀ p ∈ ps, Rd w p.1 p.2) (hl : ps.length ≤ 1000) (e : TypeId) :
    RdAll (w.alloc (.cells (ps.map Prod.fst).toArray e)) (.slice (some ⟨w.heap.size, 0, none⟩) ps.length ps.length) ps := by
  refine .inr ⟨w.heap.size, 0, ps.length, rfl, Nat.le_refl _, by unfold maxLen; omega, by simp, fun k p hp => ?_⟩
  have hk : k < ps.length := (List.getElem?_eq_some_iff.1 hp).1
  refine ⟨?_, (h p (List.mem_of_getElem? hp)).alloc _⟩
  rw [Nat.zero_add, cell_of_row _ w.heap.size k _ e (0, 0) (heap_alloc_new w _)]
  simp [hp]

theorem encode_length (t : Int) (A B : List Int) (hA : A.length ≤ 65536) (hB : B.length ≤ 65536) : (encode t (A ++ B)).length ≤ 200000 := by
  unfold encode lenOct
  have h := be_length 8 (A ++ B).length []
  split <;> simp at h ⊢ <;> omega

set_option maxHeartbeats 1000000 in
set_option maxRecDepth 100000 in
theorem joinMain (t : Int) (ao : Option Addr) (la ca : Nat) (bo : Option Addr) (lb cb : Nat) (A B : List Int) (w : World) (hra : Rd w (.slice ao la ca) A) (hA : A.length = la) (hrb : Rd w (.slice bo lb cb) B) (hB : B.length = lb)
    (h1 : la ≤ 65536) (h2 : lb ≤ 65536) :
    Calls Try.prog 3 #[.int .u8 t, .slice ao la ca, .slice bo lb cb] w fun e w' => e = .returned (.bool true) ∧ Below w.heap.size w w' := by
  have HA : Hid (A.length = la) := hA
  have HB : Hid (B.length = lb) := hB
  have hlA : A.length ≤ 65536 := by omega
  have hlB : B.length ≤ 65536 := by omega
  clear hA hB
  go_enter Try.func3, Try.ntmps3
  go_wp2_with (first
    | (go_at_call 5; refine (zz5_yes _ _ _ _ _ _ _ _ (by omega)).mono ?_; rintro e w1 ⟨rfl, rfl⟩)
    | (go_at_call 6; refine Hid.out ?_))
  unfold Hid
  refine (fresh_any _ A _ hra (by omega)).mono ?_
  rintro e w1 ⟨va, rfl, hown1, hbel1⟩
  have hrb1 := hrb.below hbel1 (Nat.le_refl _)
  clear hra hrb
  go_wp2_with (go_at_call 6; refine Hid.out ?_)
  unfold Hid
  refine (fresh_any _ B _ hrb1 (by omega)).mono ?_
  rintro e w2 ⟨vb, rfl, hown2, hbel2⟩
  have hra2 := hown1.rd.below hbel2 (Nat.le_refl _)
  have hrb2 := hown2.rd
  have hb2 := hbel1.trans (hbel2.mono hbel1.size)
  clear hrb1 hown1 hown2 hbel1 hbel2
  obtain ⟨aA, cA, hva⟩ := hra2.form
  subst hva
  obtain ⟨aB, cB, hvb⟩ := hrb2.form
  subst hvb
  obtain ⟨i5, hi5, hz5, hs5, hy5⟩ := info_parts Try.info5
  have hmk : i5.bytes * (A.length + B.length) ≤ 281474976710656 := by rw [hy5]; omega
  have hml : A.length + B.length ≤ maxLen := by unfold maxLen; omega
  go_wp2_with (at_make; refine wpList_make_own _ rfl (.const (.int .i64 0)) (.tmp 31) 22 rfl w2.heap.size 5 i5 (.int .u8 0) 1 Try.underlying22 hi5 hz5 hs5 .i64 .i64 _ (A.length + B.length) rfl rfl (by omega) hmk hml (Nat.le_refl _) ?go1)
  case go1 =>
    intro w3 hown3 hgrow3
    have hb3 : Below w2.heap.size w2 w3 := (Below.refl _ _).grown hgrow3 (Nat.le_refl _) (fun q hq => by cases hq)
    have hO3 : Own w3 w2.heap.size 5 (.slice (some ⟨w2.heap.size, 0, none⟩) 0 (A.length + B.length)) [] := hown3
    have hra3 := hra2.below hb3 (Nat.le_refl _)
    clear hgrow3 hown3 hmk hml hi5 hz5 hs5 hy5
    have hl3 : ([] : List Int).length + A.length ≤ 140737488355328 := by simp; omega
    go_wp2_with (at_builtin; refine wpList_append_rd rfl (.tmp 33) (.tmp 34) 22 rfl w2.heap.size 5 Try.underlying22 Try.info5 _ [] rfl hO3 _ A rfl hra3 hl3 hb3.size ?go2)
    case go2 =>
      intro v4 w4 hown4 hgrow4
      have hb4 := hb3.grown hgrow4 hb3.size (fun q hq => (hO3.lt q hq).1)
      have hO4 : Own w4 w2.heap.size 5 v4 A := hown4
      have hrb4 := hrb2.below hb4 (Nat.le_refl _)
      clear hgrow4 hown4 hO3 hra3 hb3 hl3
      have hl4 : A.length + B.length ≤ 140737488355328 := by omega
      go_wp2_with (at_builtin; refine wpList_append_rd rfl (.tmp 36) (.tmp 37) 22 rfl w2.heap.size 5 Try.underlying22 Try.info5 _ A rfl hO4 _ B rfl hrb4 hl4 hb4.size ?go3)
      case go3 =>
        intro v5 w5 hown5 hgrow5
        have hb5 := hb4.grown hgrow5 hb4.size (fun q hq => (hO4.lt q hq).1)
        clear hgrow5 hO4 hrb4 hb4 hl4
        obtain ⟨a5, c5, hv5⟩ := hown5.rd.form
        rw [List.length_append] at hv5
        subst hv5
        have hra5 := hra2.below hb5 (Nat.le_refl _)
        have hrb5 := hrb2.below hb5 (Nat.le_refl _)
        have hR5 : RdAll (w5.alloc (.cells #[.slice a5 (A.length + B.length) c5] 22)) (.slice (some ⟨w5.heap.size, 0, none⟩) 1 1) [(.slice a5 (A.length + B.length) c5, A ++ B)] :=
          RdAll.lits [(.slice a5 (A.length + B.length) c5, A ++ B)] (List.forall_mem_cons.2 ⟨hown5.rd, fun _ h => by simp at h⟩) (by simp) 22
        have hj5 : joined [(Value.slice a5 (A.length + B.length) c5, A ++ B)] = A ++ B := by simp [joined]
        have hE : (encode t (A ++ B)).length ≤ 200000 := encode_length t A B hlA hlB
        have hb5' := hb2.trans (hb5.mono hb2.size)
        clear hra2 hrb2 hb5 hb2
        go_wp2_with (go_at_call 7; refine Hid.out ?_)
        unfold Hid
        refine (encode_any t _ [(.slice a5 (A.length + B.length) c5, A ++ B)] _ (by simp) (by rw [hj5]; simp; omega) hR5).mono ?_
        rintro e w6 ⟨v6, rfl, hown6, hbel6⟩
        rw [hj5] at hown6
        have hb56 : Below w5.heap.size w5 w6 := ((Below.refl _ _).alloc (Nat.le_refl _) _).trans (hbel6.mono (by simp))
        have hra6 := hra5.below hb56 (Nat.le_refl _)
        have hrb6 := hrb5.below hb56 (Nat.le_refl _)
        have hb6 := hb5'.trans (hb56.mono hb5'.size)
        have hr6 := hown6.rd
        clear hown6 hbel6 hR5 hj5 hown5 hra5 hrb5 hb56 hb5'
        have hR6 : RdAll (w6.alloc (.cells #[.slice aA A.length cA, .slice aB B.length cB] 22)) (.slice (some ⟨w6.heap.size, 0, none⟩) 2 2) [(.slice aA A.length cA, A), (.slice aB B.length cB, B)] :=
          RdAll.lits [(.slice aA A.length cA, A), (.slice aB B.length cB, B)] (List.forall_mem_cons.2 ⟨hra6, List.forall_mem_cons.2 ⟨hrb6, fun _ h => by simp at h⟩⟩) (by simp) 22
        have hj6 : joined [(Value.slice aA A.length cA, A), (Value.slice aB B.length cB, B)] = A ++ B := by simp [joined]
        go_wp2_with (go_at_call 7; refine Hid.out ?_)
        unfold Hid
        refine (encode_any t _ [(.slice aA A.length cA, A), (.slice aB B.length cB, B)] _ (by simp) (by rw [hj6]; simp; omega) hR6).mono ?_
        rintro e w7 ⟨v7, rfl, hown7, hbel7⟩
        rw [hj6] at hown7
        have hb67 : Below w6.heap.size w6 w7 := ((Below.refl _ _).alloc (Nat.le_refl _) _).trans (hbel7.mono (by simp))
        have hra7 := hra6.below hb67 (Nat.le_refl _)
        have hrb7 := hrb6.below hb67 (Nat.le_refl _)
        have hr67 := hr6.below hb67 (Nat.le_refl _)
        have hb7 := hb6.trans (hb67.mono hb6.size)
        clear hbel7 hR6 hj6 hra6 hrb6 hb67 hb6 hr6
        go_wp2_with (go_at_call 8; refine Hid.out ?_)
        unfold Hid
        refine (eq_rd _ _ (encode t (A ++ B)) (encode t (A ++ B)) _ hown7.rd hr67 (by omega) (by omega)).mono ?_
        rw [eqB_yes rfl]
        rintro e w8 ⟨rfl, hb78⟩
        have hra8 := hra7.below hb78 (Nat.le_refl _)
        have hrb8 := hrb7.below hb78 (Nat.le_refl _)
        have hr8 := hr67.below hb78 (Nat.le_refl _)
        have hb8 := hb7.trans (hb78.mono hb7.size)
        clear hown7 hra7 hrb7 hr67 hb78 hb7
        go_wp2_with (go_at_call 7; refine Hid.out ?_)
        unfold Hid
        have hnil : ∀ wx, Rd wx (.slice none 0 0) [] := fun _ => .inl ⟨none, 0, rfl, rfl, fun _ => rfl, Nat.zero_le _⟩
        have hemp : ∀ wx, Rd wx (.slice (some ⟨w8.heap.size, 0, none⟩) 0 0) [] := fun _ => .inl ⟨some ⟨w8.heap.size, 0, none⟩, 0, rfl, rfl, (fun h => by cases h), Nat.zero_le _⟩
        have hR8 := RdAll.lits (w := w8.alloc (.cells #[] 5)) [(.slice none 0 0, []), (.slice aA A.length cA, A), (.slice (some ⟨w8.heap.size, 0, none⟩) 0 0, []), (.slice aB B.length cB, B), (.slice none 0 0, [])]
          (List.forall_mem_cons.2 ⟨hnil _, List.forall_mem_cons.2 ⟨hra8.alloc _, List.forall_mem_cons.2 ⟨hemp _, List.forall_mem_cons.2 ⟨hrb8.alloc _, List.forall_mem_cons.2 ⟨hnil _, fun _ h => by simp at h⟩⟩⟩⟩⟩) (by simp) 22
        rw [World.size_alloc] at hR8
        have hj8 : joined [(Value.slice none 0 0, []), (Value.slice aA A.length cA, A), (Value.slice (some ⟨w8.heap.size, 0, none⟩) 0 0, []), (Value.slice aB B.length cB, B), (Value.slice none 0 0, [])] = A ++ B := by simp [joined]
        refine (encode_any t _ [(.slice none 0 0, []), (.slice aA A.length cA, A), (.slice (some ⟨w8.heap.size, 0, none⟩) 0 0, []), (.slice aB B.length cB, B), (.slice none 0 0, [])] _ (by simp) (by rw [hj8]; simp; omega) hR8).mono ?_
        rintro e w9 ⟨v9, rfl, hown9, hbel9⟩
        rw [hj8] at hown9
        have hb89 : Below w8.heap.size w8 w9 := (((Below.refl _ _).alloc (Nat.le_refl _) _).alloc (by simp) _).trans (hbel9.mono (by simp; omega))
        have hr89 := hr8.below hb89 (Nat.le_refl _)
        have hb9 := hb8.trans (hb89.mono hb8.size)
        clear hbel9 hR8 hj8 hra8 hrb8 hb89 hb8 hr8 hnil hemp
        go_wp2_with (go_at_call 8; refine Hid.out ?_)
        unfold Hid
        refine (eq_rd _ _ (encode t (A ++ B)) (encode t (A ++ B)) _ hown9.rd hr89 (by omega) (by omega)).mono ?_
        rw [eqB_yes rfl]
        rintro e w10 ⟨rfl, hb910⟩
        have hb10 := hb9.trans (hb910.mono hb9.size)
        clear hown9 hr89 hb910 hb9
        go_wp2_with (go_at_call 7; refine Hid.out ?_)
        unfold Hid
        refine (encode_none t none 0 _).mono ?_
        rintro e w11 ⟨v11, rfl, hown11, hbel11⟩
        have hb11 := hb10.trans (hbel11.mono hb10.size)
        have hE0 : encode t [] = [t, 0] := by simp [encode, lenOct]
        rw [hE0] at hown11
        obtain ⟨bo', oo, co, hv11, _, _, _, hc11⟩ := hown11.rd.pos (by simp)
        simp only [List.length_cons, List.length_nil] at hv11 hc11
        subst hv11
        have e0 : w11.cell? ⟨bo', oo, none⟩ = some (.int .u8 t) := hc11 0 (by omega)
        have e1 : w11.cell? ⟨bo', oo + 1, none⟩ = some (.int .u8 0) := hc11 1 (by omega)
        clear hc11 hown11 hbel11 hE0 hb10
        go_wp2
        go_ret
        exact ⟨rfl, hb11⟩

set_option maxHeartbeats 400000 in
set_option maxRecDepth 100000 in
theorem joinWalk (t : Int) (ao : Option Addr) (la ca : Nat) (bo : Option Addr) (lb cb : Nat) (A B : List Int) (w : World) (hra : Rd w (.slice ao la ca) A) (hA : A.length = la) (hrb : Rd w (.slice bo lb cb) B) (hB : B.length = lb)
    (hma : la ≤ maxLen) (hmb : lb ≤ maxLen) :
    Calls Try.prog 3 #[.int .u8 t, .slice ao la ca, .slice bo lb cb] w fun e w' => e = .returned (.bool true) ∧ Below w.heap.size w w' := by
  unfold maxLen at hma hmb
  by_cases h20 : 1048576 < la + lb
  · go_enter Try.func3, Try.ntmps3
    go_wp2_with (go_at_call 5; refine (zz5_no _ _ _ _ _ _ _ _ h20).mono ?_; rintro e w1 ⟨rfl, rfl⟩)
    go_ret
    exact ⟨rfl, Below.refl _ _⟩
  by_cases h1 : 65536 < la
  · go_enter Try.func3, Try.ntmps3
    go_wp2_with (go_at_call 5; refine (zz5_yes _ _ _ _ _ _ _ _ (by omega)).mono ?_; rintro e w1 ⟨rfl, rfl⟩)
    go_ret
    exact ⟨rfl, Below.refl _ _⟩
  by_cases h2 : 65536 < lb
  · go_enter Try.func3, Try.ntmps3
    go_wp2_with (go_at_call 5; refine (zz5_yes _ _ _ _ _ _ _ _ (by omega)).mono ?_; rintro e w1 ⟨rfl, rfl⟩)
    go_ret
    exact ⟨rfl, Below.refl _ _⟩
  exact joinMain t ao la ca bo lb cb A B w hra hA hrb hB (by omega) (by omega)
end Go.Proofs.Qxb6002408a
