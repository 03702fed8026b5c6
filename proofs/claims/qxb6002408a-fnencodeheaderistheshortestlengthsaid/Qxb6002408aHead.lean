/-
  The walk of FnEncodeHeaderIsTheShortestLength (4).
-/
import Derived.Test.Qxb6002408aFresh
import Derived.Test.Qxb6002408aEq
import Derived.Test.Qxb6002408aHeadPlain
import Derived.OpenShut
import Derived.BigQuiet
import Derived.Deep.QuietTactic
namespace Go.Proofs.Qxb6002408a
open Go.RowKit

theorem Try.info22 : (Try.prog.info? 22).map (fun i => (i.zero, i.size, i.bytes)) = some (some (.slice none 0 0), 1, 24) := by kernel_rfl

/-- The first k parts laid, nil behind. -/
def laid (v : Value) (m k : Nat) : List Value := List.replicate k v ++ List.replicate (m - k) (.slice none 0 0)

theorem laid_length (v : Value) (m k : Nat) (h : k ≤ m) : (laid v m k).length = m := by simp [laid]; omega
theorem laid_zero (v : Value) (m : Nat) : laid v m 0 = List.replicate m (.slice none 0 0) := by simp [laid]
theorem laid_all (v : Value) (m : Nat) : laid v m m = List.replicate m v := by simp [laid]
theorem laid_set (v : Value) (m k : Nat) (h : k < m) : (laid v m k).set k v = laid v m (k + 1) := by
  unfold laid
  have h0 : k - (List.replicate k v).length = 0 := by simp
  rw [List.set_append, if_neg (by simp), h0, show m - k = (m - (k + 1)) + 1 by omega, List.replicate_succ, List.set_cons_zero, List.replicate_succ', List.append_assoc, List.singleton_append]

/-- The call's own slice of slices. -/
def OwnS (w : World) (base : Nat) (v : Value) (xs : List Value) : Prop := w.ownsRow base 22 1 v xs.length xs

theorem OwnS.stored {w : World} {base g n cap : Nat} {xs : List Value} (hn : xs.length = n) (h : OwnS w base (.slice (some ⟨g, 0, none⟩) n cap) xs) (j : Nat) (x : Value) :
    OwnS (w.setCell ⟨g, j, none⟩ x) base (.slice (some ⟨g, 0, none⟩) n cap) (xs.set j x) ∧ w.grownBy (w.setCell ⟨g, j, none⟩ x) (some g) := by
  subst hn
  have := World.ownsRow.stored h j x
  refine ⟨?_, this.2⟩
  unfold OwnS
  rw [List.length_set]
  exact this.1
theorem OwnS.cell {w : World} {base g n cap : Nat} {xs : List Value} (hn : xs.length = n) (h : OwnS w base (.slice (some ⟨g, 0, none⟩) n cap) xs) (j : Nat) (hj : j < n) :
    w.cell? ⟨g, j, none⟩ = xs[j]? := by
  subst hn
  exact World.ownsRow.cellAt h j (by omega)
theorem OwnS.frozen {w : World} {base g n cap : Nat} {xs : List Value} (hn : xs.length = n) (h : OwnS w base (.slice (some ⟨g, 0, none⟩) n cap) xs) (j : Nat) : w.frozen? ⟨g, j, none⟩ = false := by
  subst hn
  exact World.ownsRow.frozenAt h j
theorem OwnS.lt {w : World} {base : Nat} {v : Value} {xs : List Value} (h : OwnS w base v xs) : ∀ k, v.ownBlock = some k → base ≤ k ∧ k < w.heap.size := World.ownsRow.lt h

/-- 'make([][]byte, n)'. -/
theorem wpList_make_parts {w : World} {ops : Array Oper} {rest : List Oper} {o : Oper} {a : Act} {Q : Exit → Act → World → Prop}
    (hg : o.guard = none) (l c : Operand) (hop : o.op = Op.makeSlice 29 l c) (base : Nat)
    (kl kc : IntKind) (L C : Int) (n : Nat) (hl : a.eval l = .int kl L) (hc : a.eval c = .int kc C) (hL : L = (n : Int)) (hC : C = (n : Int)) (hn : n ≤ 1000000) (b4 : base ≤ w.heap.size)
    (hK : ∀ w', OwnS w' base (.slice (some ⟨w.heap.size, 0, none⟩) n n) (List.replicate n (.slice none 0 0)) → w.grownBy w' none → wpList Try.prog ops Q rest (a.put o.dst (.slice (some ⟨w.heap.size, 0, none⟩) n n)) w') :
    wpList Try.prog ops Q (o :: rest) a w := by
  obtain ⟨i, hi, hz, hsize, hby⟩ := info_parts Try.info22
  refine wpList_make_full w hg l c 29 hop base 22 i (.slice none 0 0) 1 Try.underlying29 hi hz hsize kl kc L C n hl hc hL hC (by rw [hby]; omega) (by unfold maxLen; omega) b4 ?_
  intro w' hown hgrow
  refine hK w' ?_ hgrow
  unfold OwnS
  rw [List.length_replicate]
  have e1 : (madeCells (Value.slice none 0 0).cells (n * 1)).toList = List.replicate n (.slice none 0 0) := by
    rw [Nat.mul_one, show (Value.slice none 0 0).cells = #[.slice none 0 0] from rfl, toList_madeCells_one]
  rw [← e1]
  exact hown

/-- m copies of one part, read. -/
theorem rdAll_parts {w : World} {base g m : Nat} {v : Value} {bs : List Int} (h : OwnS w base (.slice (some ⟨g, 0, none⟩) m m) (List.replicate m v)) (hr : Rd w v bs) :
    RdAll w (.slice (some ⟨g, 0, none⟩) m m) (List.replicate m (v, bs)) := by
  have hl : (List.replicate m v).length = m := List.length_replicate ..
  by_cases hm : m = 0
  · subst hm
    exact .inl ⟨_, _, rfl, rfl⟩
  · have hlt := (h.lt g rfl).2
    have hcm : m ≤ maxLen := by
      rcases h.2 with ⟨h', _⟩ | ⟨g', cap', cur, h', _, _, _, hcm', _⟩
      · simp at h'
      · simp only [Value.slice.injEq] at h'
        obtain ⟨_, _, h2⟩ := h'
        omega
    refine .inr ⟨g, 0, m, by rw [List.length_replicate], by simp, hcm, hlt, fun k p hp => ?_⟩
    rw [List.getElem?_replicate] at hp
    split at hp
    · simp at hp
      subst hp
      refine ⟨?_, hr⟩
      rw [Nat.zero_add, h.cell hl k (by assumption), List.getElem?_replicate, if_pos (by assumption)]
    · cases hp

theorem joined_rep (v : Value) (bs : List Int) (m : Nat) : joined (List.replicate m (v, bs)) = (List.replicate m bs).flatten := by
  simp [joined, List.flatMap, List.map_replicate]

theorem body_length (bs : List Int) (m : Nat) : (List.replicate m bs).flatten.length = m * bs.length := by simp

theorem body_get (bs : List Int) (m i : Nat) (h : i < m * bs.length) : (List.replicate m bs).flatten.getD i 0 = bs.getD (i % bs.length) 0 := by
  induction m generalizing i with
  | zero => simp at h
  | succ m ih =>
    have hb : 0 < bs.length := by
      rcases Nat.eq_zero_or_pos bs.length with hz | hz
      · rw [hz] at h; simp at h
      · exact hz
    rw [List.replicate_succ, List.flatten_cons]
    by_cases hi : i < bs.length
    · rw [Nat.mod_eq_of_lt hi]
      simp [List.getD, List.getElem?_append, hi]
    · have h2 : i - bs.length < m * bs.length := by rw [Nat.succ_mul] at h; omega
      have := ih (i - bs.length) h2
      rw [Nat.mod_eq_sub_mod (by omega), ← this]
      simp [List.getD, List.getElem?_append, hi]

set_option maxHeartbeats 400000 in
theorem zz9_yes (t m : Int) (ao : Option Addr) (n c : Nat) (w : World) (h : n ≤ 1048576) : Calls Try.prog 9 #[.int .u8 t, .slice ao n c, .int .i64 m] w fun e w' => e = .returned (.bool true) ∧ w = w' := by
  go_enter Try.func9, Try.ntmps9
  go_wp2
  go_ret
  exact ⟨rfl, rfl⟩

set_option maxHeartbeats 400000 in
theorem zz9_no (t m : Int) (ao : Option Addr) (n c : Nat) (w : World) (h : 1048576 < n) : Calls Try.prog 9 #[.int .u8 t, .slice ao n c, .int .i64 m] w fun e w' => e = .returned (.bool false) ∧ w = w' := by
  go_enter Try.func9, Try.ntmps9
  go_wp2
  go_ret
  exact ⟨rfl, rfl⟩

set_option maxHeartbeats 1000000 in
set_option maxRecDepth 100000 in
theorem head_short (t : Int) (ao : Option Addr) (len cap : Nat) (bs : List Int) (m : Nat) (w : World) (hr : Rd w (.slice ao len cap) bs) (hlen : bs.length = len)
    (hl : len ≤ 1024) (hm : m ≤ 1024) (hN0 : m * bs.length < 128) :
    Calls Try.prog 4 #[.int .u8 t, .slice ao len cap, .int .i64 m] w fun e w' => e = .returned (.bool true) ∧ Below w.heap.size w w' := by
  have HL : Hid (bs.length = len) := hlen
  have hbl : bs.length ≤ 1024 := by omega
  clear hlen
  go_enter Try.func4, Try.ntmps4
  go_wp2_with (first
    | (go_at_call 9; refine (zz9_yes _ _ _ _ _ _ (by omega)).mono ?_; rintro e w1 ⟨rfl, rfl⟩)
    | (go_at_call 6; refine Hid.out ?_))
  unfold Hid
  refine (fresh_any _ bs _ hr (by omega)).mono ?_
  rintro e w1 ⟨v1, rfl, hown, hbel⟩
  obtain ⟨a1, c1, hv1⟩ := hown.rd.form
  subst hv1
  clear hr
  go_wp2_with (at_make; refine wpList_make_parts rfl (.tmp 32) (.tmp 32) rfl w1.heap.size .i64 .i64 m m m rfl rfl rfl rfl (by omega) (Nat.le_refl _) ?go1)
  case go1 =>
    intro w2 howns hgrow2
    have hbel2 : Below w1.heap.size w1 w2 := (Below.refl _ _).grown hgrow2 (Nat.le_refl _) (fun q hq => by cases hq)
    rw [← laid_zero (.slice a1 bs.length c1) m] at howns
    clear hgrow2
    go_wp2_with fail
    go_loopw [8] (fun i wr => ∃ k : Nat, k ≤ m ∧ i = .int .i64 k ∧ OwnS wr w1.heap.size (.slice (some ⟨w1.heap.size, 0, none⟩) m m) (laid (.slice a1 bs.length c1) m k) ∧ Below w1.heap.size w1 wr) (fun i _ => m - (intOf i).toNat)
    case atStart => exact ⟨0, Nat.zero_le _, rfl, howns, hbel2⟩
    case round =>
      clear howns hbel2
      obtain ⟨k, hk, rfl, howns, hbel2⟩ := hrel
      by_cases hkm : k < m
      · have hml := laid_length (.slice a1 bs.length c1) m k hk
        obtain ⟨old, hold⟩ : ∃ old, wr.cell? ⟨w1.heap.size, k, none⟩ = some old := by
          rw [howns.cell hml k hkm]
          exact ⟨_, List.getElem?_eq_getElem (by omega)⟩
        have fg := howns.frozen hml k
        have hst := howns.stored hml k (.slice a1 bs.length c1)
        have HO : Hid (OwnS (wr.setCell ⟨w1.heap.size, k, none⟩ (.slice a1 bs.length c1)) w1.heap.size (.slice (some ⟨w1.heap.size, 0, none⟩) m m) (laid (.slice a1 bs.length c1) m (k + 1))) := by
          rw [← laid_set _ m k hkm]; exact hst.1
        have HB : Hid (Below w1.heap.size w1 (wr.setCell ⟨w1.heap.size, k, none⟩ (.slice a1 bs.length c1))) := hbel2.grown hst.2 hbel2.size (fun q hq => by cases hq; exact Nat.le_refl _)
        clear hst howns hml
        go_wp2
        go_roundw
        case rel => exact ⟨k + 1, by omega, by go_num, HO.out, HB.out⟩
        case measure => simp [intOf]; omega
      · have hkk : k = m := by omega
        subst hkk
        rw [laid_all] at howns
        have hrd := hown.rd.below hbel2 (Nat.le_refl _)
        have hall := rdAll_parts howns hrd
        have hb2 := hbel.trans (hbel2.mono hbel.size)
        clear howns hown hbel hbel2
        go_wp2_with (go_at_call 7; refine Hid.out ?_)
        unfold Hid
        have hjr := joined_rep (.slice a1 bs.length c1) bs k
        have hbl2 := body_length bs k
        have hbg := body_get bs k
        obtain ⟨B, hB⟩ : ∃ B, B = (List.replicate k bs).flatten := ⟨_, rfl⟩
        rw [← hB] at hjr hbl2 hbg
        have hN : B.length < 128 := by rw [hbl2]; exact hN0
        clear hN0
        have hBle : B.length ≤ 1048576 := by rw [hbl2]; exact Nat.le_trans (Nat.mul_le_mul hm hbl) (by decide)
        refine (encode_any t _ (List.replicate k (.slice a1 bs.length c1, bs)) _ (by rw [List.length_replicate]; omega) (by rw [hjr]; omega) hall).mono ?_
        rintro e w3 ⟨v3, rfl, hown3, hbel3⟩
        rw [hjr] at hown3
        have hr1 := hrd.below hbel3 (Nat.le_refl _)
        have hb3 := hb2.trans (hbel3.mono hb2.size)
        have hmul : (k : Int) * (bs.length : Int) = (B.length : Int) := by rw [hbl2]; simp
        have HG : Hid (∀ i, i < B.length → B.getD i 0 = bs.getD (i % bs.length) 0) := fun i hi => hbg i (by omega)
        clear hbg hall hrd hb2 hbel3 hjr hB hbl2
        have hE : encode t B = t :: (B.length : Int) :: B := by unfold encode lenOct; rw [if_pos hN]; rfl
        rw [hE] at hown3
        obtain ⟨bo, oo, co, hv3, hlc, hcm, hbo, hco⟩ := hown3.rd.pos (by simp)
        simp only [List.length_cons] at hv3 hlc hco
        subst hv3
        have e0 : w3.cell? ⟨bo, oo, none⟩ = some (.int .u8 t) := hco 0 (by omega)
        have e1 : w3.cell? ⟨bo, oo + 1, none⟩ = some (.int .u8 (B.length : Int)) := hco 1 (by omega)
        have HO : Hid (∀ i, i < B.length → w3.cell? ⟨bo, oo + (2 + i), none⟩ = some (.int .u8 (B.getD i 0))) := by
          intro i hi
          have := hco (2 + i) (by omega)
          rw [this, show 2 + i = i + 1 + 1 by omega]
          simp
        clear hco hown3 hE
        go_wp2
        go_loopw [15] (fun j wr => ∃ i : Nat, i ≤ B.length ∧ j = .int .i64 i ∧ ∃ n, wr = w3.drewN n) (fun j _ => B.length - (intOf j).toNat)
        case atStart => exact ⟨0, Nat.zero_le _, rfl, 0, rfl⟩
        case round =>
          obtain ⟨i, hi, rfl, n, rfl⟩ := hrel
          by_cases hib : i < B.length
          · have hpos : 0 < bs.length := by
              rcases Nat.eq_zero_or_pos bs.length with hz | hz
              · rw [hz] at hmul; simp at hmul; omega
              · exact hz
            obtain ⟨ba, oa, ca, hva, _, _, _, hca⟩ := hr1.pos hpos
            simp only [Value.slice.injEq] at hva
            obtain ⟨hva1, _, hva2⟩ := hva
            subst hva1
            subst hva2
            obtain ⟨x, hx⟩ : ∃ x, x = B.getD i 0 := ⟨_, rfl⟩
            have e2 : w3.cell? ⟨bo, oo + (2 + i), none⟩ = some (.int .u8 x) := by rw [hx]; exact HO.out i hib
            have hmod : i % bs.length < bs.length := Nat.mod_lt _ hpos
            have e3 : w3.cell? ⟨ba, oa + i % bs.length, none⟩ = some (.int .u8 x) := by rw [hx, HG.out i hib]; exact hca _ hmod
            have hne : ((bs.length : Int) == 0) = false := beq_eq_false_iff_ne.2 (by omega)
            have hi2 : (2 : Int) + (i : Int) < (B.length : Int) + 1 + 1 := by omega
            have hm2 : (i : Int) % (bs.length : Int) < (bs.length : Int) := by omega
            have hm3 : 0 ≤ (i : Int) % (bs.length : Int) := by omega
            clear hx hca
            go_wp2
            go_quiet (fail)
            go_wp2
            go_roundw
            case rel => exact ⟨i + 1, by omega, by go_num, _, rfl⟩
            case measure => simp [intOf]; omega
          · go_wp2
            go_ret
            exact ⟨rfl, below_drewN hb3 _⟩
end Go.Proofs.Qxb6002408a
