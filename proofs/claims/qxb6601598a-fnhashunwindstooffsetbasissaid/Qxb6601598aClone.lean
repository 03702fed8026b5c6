/-
  make and store on a byte slice that the call owns; the walk of cloneBytesLayoutB1 (6).
-/
import Derived.Test.Qxb6601598aRows
import Derived.Test.Qxb6601598aBase
import Derived.Lib.SliceRun
namespace Go.Proofs.Qxb6601598a
open Go.RowKit

theorem Rd.pos {w : World} {v : Value} {bs : List Int} (h : Rd w v bs) (hp : 0 < bs.length) :
    ∃ b off c, v = .slice (some ⟨b, off, none⟩) bs.length c ∧ bs.length ≤ c ∧ c ≤ maxLen ∧ b < w.heap.size ∧ ∀ j, j < bs.length → w.cell? ⟨b, off + j, none⟩ = some (.int .u8 (bs.getD j 0)) := by
  rcases h with ⟨_, _, _, rfl, _⟩ | ⟨b, off, c, h1, h2, h3, h4, h5, h6⟩
  · simp at hp
  · exact ⟨b, off, c, h1, h3, h4, h5, h6⟩

theorem bytesV_set (bs : List Int) (j : Nat) (x : Int) : (bytesV bs).set j (.int .u8 x) = bytesV (bs.set j x) := by
  simp [bytesV, List.map_set]

/-- 'make([]byte, n)'. -/
theorem wpList_make_bytes {P : Program} {w : World} {ops : Array Oper} {rest : List Oper} {o : Oper} {a : Act} {Q : Exit → Act → World → Prop}
    (hg : o.guard = none) (l c : Operand) (t : TypeId) (hop : o.op = Op.makeSlice t l c)
    (base : Nat) (e : TypeId) (h1 : P.underlying t = some (.slice e)) (hinfo : (P.info? e).map (fun i => (i.zero, i.size, i.bytes)) = some (some (.int .u8 0), 1, 1))
    (kl kc : IntKind) (L C : Int) (n : Nat) (hl : a.eval l = .int kl L) (hc : a.eval c = .int kc C) (hL : L = (n : Int)) (hC : C = (n : Int)) (hn : n ≤ 281474976710656) (b4 : base ≤ w.heap.size)
    (hK : ∀ w', Own w' base e (.slice (some ⟨w.heap.size, 0, none⟩) n n) (List.replicate n 0) → w.grownBy w' none → wpList P ops Q rest (a.put o.dst (.slice (some ⟨w.heap.size, 0, none⟩) n n)) w') :
    wpList P ops Q (o :: rest) a w := by
  obtain ⟨i, hi, hz, hsize, hby⟩ := info_parts hinfo
  refine wpList_make_full w hg l c t hop base e i (.int .u8 0) 1 h1 hi hz hsize kl kc L C n hl hc hL hC (by rw [hby]; omega) (by unfold maxLen; omega) b4 ?_
  intro w' hown hgrow
  refine hK w' ?_ hgrow
  unfold Own
  rw [List.length_replicate]
  have e1 : (madeCells (Value.int .u8 0).cells (n * 1)).toList = bytesV (List.replicate n 0) := by
    rw [Nat.mul_one, show (Value.int .u8 0).cells = #[.int .u8 0] from rfl, toList_madeCells_one]
    simp [bytesV]
  rw [← e1]
  exact hown

/-- A store into the owned slice. -/
theorem Own.stored {w : World} {base : Nat} {e : TypeId} {g n cap : Nat} {bs : List Int} (hn : bs.length = n) (h : Own w base e (.slice (some ⟨g, 0, none⟩) n cap) bs) (j : Nat) (x : Int) :
    Own (w.setCell ⟨g, j, none⟩ (.int .u8 x)) base e (.slice (some ⟨g, 0, none⟩) n cap) (bs.set j x) ∧ w.grownBy (w.setCell ⟨g, j, none⟩ (.int .u8 x)) (some g) := by
  subst hn
  have := World.ownsRow.stored h j (.int .u8 x)
  refine ⟨?_, this.2⟩
  unfold Own
  rw [List.length_set, ← bytesV_set]
  exact this.1

theorem Own.cell {w : World} {base : Nat} {e : TypeId} {g n cap : Nat} {bs : List Int} (hn : bs.length = n) (h : Own w base e (.slice (some ⟨g, 0, none⟩) n cap) bs) (j : Nat) (hj : j < n) :
    w.cell? ⟨g, j, none⟩ = some (.int .u8 (bs.getD j 0)) := by
  subst hn
  rw [World.ownsRow.cellAt h j (by omega), bytesV_get bs j hj]

theorem Own.frozen {w : World} {base : Nat} {e : TypeId} {g n cap : Nat} {bs : List Int} (hn : bs.length = n) (h : Own w base e (.slice (some ⟨g, 0, none⟩) n cap) bs) (j : Nat) : w.frozen? ⟨g, j, none⟩ = false := by
  subst hn
  exact World.ownsRow.frozenAt h j

/-- The first k numbers copied, zeros behind. -/
def mixed (bs : List Int) (k : Nat) : List Int := bs.take k ++ List.replicate (bs.length - k) 0

theorem mixed_length (bs : List Int) (k : Nat) (h : k ≤ bs.length) : (mixed bs k).length = bs.length := by simp [mixed]; omega
theorem mixed_zero (bs : List Int) : mixed bs 0 = List.replicate bs.length 0 := by simp [mixed]
theorem mixed_all (bs : List Int) : mixed bs bs.length = bs := by simp [mixed]
theorem mixed_set (bs : List Int) (k : Nat) (h : k < bs.length) : (mixed bs k).set k (bs.getD k 0) = mixed bs (k + 1) := by
  unfold mixed
  have h0 : k - (bs.take k).length = 0 := by simp; omega
  have h1 : bs.getD k 0 = bs[k] := by simp [List.getD, h]
  rw [List.set_append, if_neg (by simp; omega), h0, h1, List.take_succ_eq_append_getElem h, show bs.length - k = (bs.length - (k + 1)) + 1 by omega, List.replicate_succ,
    List.set_cons_zero, List.append_assoc, List.singleton_append]

theorem Try.info5' : (Try.prog.info? 5).map (fun i => (i.zero, i.size, i.bytes)) = some (some (.int .u8 0), 1, 1) := by kernel_rfl

set_option maxHeartbeats 400000 in
set_option maxRecDepth 100000 in
theorem clone_any (v : Value) (bs : List Int) (w : World) (hv : Rd w v bs) (hl : bs.length ≤ 1048576) :
    Calls Try.prog 6 #[v] w fun e w' => ∃ v', e = .returned v' ∧ Own w' w.heap.size 5 v' bs ∧ Below w.heap.size w w' := by
  have heq := fun (w : World) (a : Option Addr) (n c : Nat) => Lib.run_eql_slice_nil (P := Try.prog) w 22 5 a n c 0 0 Try.underlying22
  rcases hv with ⟨ao, c, rfl, rfl, hn, hcm⟩ | ⟨b, off, c, rfl, hp, hlc, hcm, hb, hc⟩
  · cases ao with
    | none =>
      go_enter Try.func6, Try.ntmps6
      go_wp2
      go_ret
      exact ⟨_, rfl, Own.nil _ _ _, Below.refl _ _⟩
    | some ad =>
      go_enter Try.func6, Try.ntmps6
      go_wp2_with (at_make; refine wpList_make_bytes rfl (.tmp 8) (.tmp 8) 22 rfl w.heap.size 5 Try.underlying22 Try.info5' .i64 .i64 0 0 0 rfl rfl rfl rfl (by omega) (Nat.le_refl _) ?go1)
      case go1 =>
        intro w1 hown hgrow
        have hbel : Below w.heap.size w w1 := (Below.refl _ _).grown hgrow (Nat.le_refl _) (fun q hq => by cases hq)
        clear hgrow
        go_wp2_with fail
        refine wp_loop_rounds 1 ?_
        rw [rounds_succ]
        go_wp2
        go_ret
        exact ⟨_, rfl, hown, hbel⟩
  · go_enter Try.func6, Try.ntmps6
    go_wp2_with (at_make; refine wpList_make_bytes rfl (.tmp 8) (.tmp 8) 22 rfl w.heap.size 5 Try.underlying22 Try.info5' .i64 .i64 bs.length bs.length bs.length rfl rfl rfl rfl (by omega) (Nat.le_refl _) ?go2)
    case go2 =>
      intro w1 hown hgrow
      have hbel : Below w.heap.size w w1 := (Below.refl _ _).grown hgrow (Nat.le_refl _) (fun q hq => by cases hq)
      rw [← mixed_zero] at hown
      clear hgrow
      go_wp2_with fail
      go_loopw [4] (fun i wr => ∃ k : Nat, k ≤ bs.length ∧ i = .int .i64 k ∧ Own wr w.heap.size 5 (.slice (some ⟨w.heap.size, 0, none⟩) bs.length bs.length) (mixed bs k) ∧ Below w.heap.size w wr) (fun i _ => bs.length - (intOf i).toNat)
      case atStart => exact ⟨0, Nat.zero_le _, rfl, hown, hbel⟩
      case round =>
        clear hown hbel
        obtain ⟨k, hk, rfl, hown, hbel⟩ := hrel
        by_cases hlt : k < bs.length
        · have hml := mixed_length bs k hk
          obtain ⟨x, hx⟩ : ∃ x, x = bs.getD k 0 := ⟨_, rfl⟩
          have ck : wr.cell? ⟨b, off + k, none⟩ = some (.int .u8 x) := by rw [hx]; exact (hbel.cell (p := ⟨b, off + k, none⟩) hb).trans (hc k hlt)
          have cg := hown.cell hml k hlt
          have fg := hown.frozen hml k
          have hst := hown.stored hml k x
          have HO : Hid (Own (wr.setCell ⟨w.heap.size, k, none⟩ (.int .u8 x)) w.heap.size 5 (.slice (some ⟨w.heap.size, 0, none⟩) bs.length bs.length) (mixed bs (k + 1))) := by
            rw [← mixed_set bs k hlt, ← hx]; exact hst.1
          have hb2 := hbel.grown hst.2 hbel.size (fun q hq => by cases hq; exact Nat.le_refl _)
          have HB : Hid (Below w.heap.size w (wr.setCell ⟨w.heap.size, k, none⟩ (.int .u8 x))) := hb2
          clear hst hown hx hc hml hb2
          go_wp2
          go_roundw
          case rel => exact ⟨k + 1, by omega, by go_num, HO.out, HB.out⟩
          case measure => simp [intOf]; omega
        · have hkk : k = bs.length := by omega
          have HO : Hid (Own wr w.heap.size 5 (.slice (some ⟨w.heap.size, 0, none⟩) bs.length bs.length) bs) := by
            rw [hkk, mixed_all] at hown; exact hown
          clear hown hkk hc
          go_wp2
          go_ret
          exact ⟨_, rfl, HO.out, hbel⟩
end Go.Proofs.Qxb6601598a
