/-
  make and store on a byte slice that the call owns; the walk of zzFresh (6).
-/
import Derived.Test.Qxb6002408aRows
import Derived.Test.Qxb6002408aBase
import Derived.Lib.SliceRun
import Derived.Laws.CopyOwn
namespace Go.Proofs.Qxb6002408a
open Go.RowKit

theorem bytesV_set (bs : List Int) (j : Nat) (x : Int) : (bytesV bs).set j (.int .u8 x) = bytesV (bs.set j x) := by
  simp [bytesV, List.map_set]

/-- 'make([]byte, n)'. -/
theorem wpList_make_bytes {P : Program} {w : World} {ops : Array Oper} {rest : List Oper} {o : Oper} {a : Act} {Q : Exit → Act → World → Prop}
    (hg : o.guard = none) (l c : Operand) (t : TypeId) (hop : o.op = Op.makeSlice t l c)
    (base : Nat) (e : TypeId) (h1 : P.underlying t = some (.slice e)) (hinfo : (P.info? e).map (fun i => (i.zero, i.size, i.bytes)) = some (some (.int .u8 0), 1, 1))
    (kl kc : IntKind) (L C : Int) (n : Nat) (hl : a.eval l = .int kl L) (hc : a.eval c = .int kc C) (hL : L = (n : Int)) (hC : C = (n : Int)) (hn : n ≤ 281474976710656) (b4 : base ≤ w.heap.size)
    (hK : ∀ w', Own w' base e (.slice (some ⟨w.heap.size, 0, none⟩) n n) (List.replicate n 0) → w.grownBy w' none → wpList P ops Q rest (a.put o.dst (.slice (some ⟨w.heap.size, 0, none⟩) n n)) w') :
    wpList P ops Q (o :: rest) a w := by
  obtain ⟨i, hi, hz, hsize, hby⟩ := info_parts hinfo
  refine wpList_make_full w hg l c t hop base e i (.int .u8 0) 1 h1 hi hz hsize kl kc L C n hl hc hL hC (by rw [hby]; omega) (by unfold maxLen; omega) b4 ?_
  intro w' hown hgrow
  refine hK w' ?_ hgrow
  unfold Own
  rw [List.length_replicate]
  have e1 : (madeCells (Value.int .u8 0).cells (n * 1)).toList = bytesV (List.replicate n 0) := by
    rw [Nat.mul_one, show (Value.int .u8 0).cells = #[.int .u8 0] from rfl, toList_madeCells_one]
    simp [bytesV]
  rw [← e1]
  exact hown

/-- A store into the owned slice. -/
theorem Own.stored {w : World} {base : Nat} {e : TypeId} {g n cap : Nat} {bs : List Int} (hn : bs.length = n) (h : Own w base e (.slice (some ⟨g, 0, none⟩) n cap) bs) (j : Nat) (x : Int) :
    Own (w.setCell ⟨g, j, none⟩ (.int .u8 x)) base e (.slice (some ⟨g, 0, none⟩) n cap) (bs.set j x) ∧ w.grownBy (w.setCell ⟨g, j, none⟩ (.int .u8 x)) (some g) := by
  subst hn
  have := World.ownsRow.stored h j (.int .u8 x)
  refine ⟨?_, this.2⟩
  unfold Own
  rw [List.length_set, ← bytesV_set]
  exact this.1

theorem Own.cell {w : World} {base : Nat} {e : TypeId} {g n cap : Nat} {bs : List Int} (hn : bs.length = n) (h : Own w base e (.slice (some ⟨g, 0, none⟩) n cap) bs) (j : Nat) (hj : j < n) :
    w.cell? ⟨g, j, none⟩ = some (.int .u8 (bs.getD j 0)) := by
  subst hn
  rw [World.ownsRow.cellAt h j (by omega), bytesV_get bs j hj]

theorem Own.frozen {w : World} {base : Nat} {e : TypeId} {g n cap : Nat} {bs : List Int} (hn : bs.length = n) (h : Own w base e (.slice (some ⟨g, 0, none⟩) n cap) bs) (j : Nat) : w.frozen? ⟨g, j, none⟩ = false := by
  subst hn
  exact World.ownsRow.frozenAt h j

/-- 'copy(dst, src)', dst owned whole, src of the same length. -/
theorem wpList_copy_bytes {P : Program} {w : World} {ops : Array Oper} {rest : List Oper} {o : Oper} {a : Act} {Q : Exit → Act → World → Prop} (hgd : o.guard = none) (d s : Operand) (t : TypeId)
    (ho : o.op = .call { callee := .builtin .copy, args := #[d, s], argTypes := #[t, t] }) (base : Nat) (e : TypeId) (hu : P.underlying t = some (.slice e))
    (hinfo : (P.info? e).map (fun i => (i.zero, i.size, i.bytes)) = some (some (.int .u8 0), 1, 1))
    (g n : Nat) (hd : a.eval d = .slice (some ⟨g, 0, none⟩) n n) (vs : Value) (bs : List Int) (hs : a.eval s = vs) (hrd : Rd w vs bs) (hn : bs.length = n)
    (olds : List Int) (hold : olds.length = n) (hown : Own w base e (.slice (some ⟨g, 0, none⟩) n n) olds)
    (h : ∀ w', Own w' base e (.slice (some ⟨g, 0, none⟩) n n) bs → w.grownBy w' (some g) → wpList P ops Q rest (a.put o.dst (goInt n)) w') : wpList P ops Q (o :: rest) a w := by
  obtain ⟨i, hi, hz, hsize, hby⟩ := info_parts hinfo
  have hsz : (P.info? e).map (·.size) = some 1 := by rw [hi]; simp [hsize]
  subst hn
  rcases hrd with ⟨ao, c, hv, rfl, hnn, _⟩ | ⟨b, off, c, hv, hp, hlc, hcm, hb, hc⟩
  · refine wpList_copy_nothing hgd d s t t ho e hu hsz (some ⟨g, 0, none⟩) ao 0 0 0 c hd (hs.trans hv) (by simp) ?_
    have ho0 : olds = [] := List.eq_nil_of_length_eq_zero hold
    subst ho0
    exact h w hown (World.grownBy.refl _ _)
  · rcases hown.2 with ⟨h', _⟩ | ⟨g', cap', cur, h', hbg, hg, hnc, hcm', hcs, htake⟩
    · simp at h'
    · simp only [Value.slice.injEq, Option.some.injEq, Addr.mk.injEq, and_true] at h'
      obtain ⟨rfl, _, rfl⟩ := h'
      have hcl : cur.size = bs.length := by simpa using hcs
      refine wpList_copy_own hgd d s t t ho e hu hsz g 0 bs.length bs.length ⟨b, off, none⟩ bs.length c hd (hs.trans hv) cur e hg (bytesV bs) (by rw [bytesV_length]; simp) ?_ (by rw [bytesV_length]; omega) (bytesV_one bs) ?_
      · intro j u hu'
        have hj : j < bs.length := by have := (List.getElem?_eq_some_iff.1 hu').1; rwa [bytesV_length] at this
        rw [bytesV_get bs j hj] at hu'
        rw [Addr.add_lit, hc j hj]; exact hu'
      · have hrow : cur.toList.take 0 ++ (bytesV bs ++ cur.toList.drop (0 + (bytesV bs).length)) = bytesV bs := by
          rw [bytesV_length, List.drop_of_length_le (by rw [Array.length_toList]; omega)]
          simp
        rw [hrow, bytesV_length]
        refine h _ ⟨by rw [bytesV_length]; omega, .inr ⟨g, bs.length, (bytesV bs).toArray, rfl, hbg, setRow_heap w g cur _ e _ hg, Nat.le_refl _, by omega, by simp [bytesV_length], ?_⟩⟩
          ⟨rfl, rfl, rfl, by simp, fun k _ hk => setRow_other w g k _ (fun e => hk (by rw [e]))⟩
        exact List.take_of_length_le (by simp [bytesV_length])

theorem Try.info5' : (Try.prog.info? 5).map (fun i => (i.zero, i.size, i.bytes)) = some (some (.int .u8 0), 1, 1) := by kernel_rfl

set_option maxHeartbeats 400000 in
set_option maxRecDepth 100000 in
theorem fresh_any (v : Value) (bs : List Int) (w : World) (hv : Rd w v bs) (hl : bs.length ≤ 1048576) :
    Calls Try.prog 6 #[v] w fun e w' => ∃ v', e = .returned v' ∧ Own w' w.heap.size 5 v' bs ∧ Below w.heap.size w w' := by
  have heq := fun (w : World) (a : Option Addr) (n c : Nat) => Lib.run_eql_slice_nil (P := Try.prog) w 22 5 a n c 0 0 Try.underlying22
  by_cases hnil : v = .slice none 0 0
  · subst hnil
    have hbs : bs = [] := by
      rcases hv with ⟨_, _, _, h, _⟩ | ⟨_, _, _, h, hp, _⟩
      · exact h
      · simp at h
    subst hbs
    go_enter Try.func6, Try.ntmps6
    go_wp2
    go_ret
    exact ⟨_, rfl, Own.nil _ _ _, Below.refl _ _⟩
  · obtain ⟨ad, c, rfl⟩ : ∃ ad c, v = .slice (some ad) bs.length c := by
      rcases hv with ⟨ao, c, rfl, rfl, hn, _⟩ | ⟨b, off, c, rfl, _⟩
      · cases ao with
        | none => rw [hn rfl] at hnil; exact absurd rfl hnil
        | some ad => exact ⟨ad, c, rfl⟩
      · exact ⟨_, c, rfl⟩
    clear hnil
    go_enter Try.func6, Try.ntmps6
    go_wp2_with (at_make; refine wpList_make_bytes rfl (.tmp 7) (.tmp 7) 22 rfl w.heap.size 5 Try.underlying22 Try.info5' .i64 .i64 bs.length bs.length bs.length rfl rfl rfl rfl (by omega) (Nat.le_refl _) ?go2)
    case go2 =>
      intro w1 hown hgrow
      have hbel : Below w.heap.size w w1 := (Below.refl _ _).grown hgrow (Nat.le_refl _) (fun q hq => by cases hq)
      have hr := hv.below hbel (Nat.le_refl _)
      clear hgrow
      go_wp2_with (refine wpList_copy_bytes rfl (.tmp 9) (.tmp 10) 22 rfl w.heap.size 5 Try.underlying22 Try.info5' w.heap.size bs.length rfl _ bs rfl hr rfl (List.replicate bs.length 0) (List.length_replicate ..) hown ?go3)
      case go3 =>
        intro w2 hown2 hgrow2
        have hbel2 := hbel.grown hgrow2 hbel.size (fun q hq => by cases hq; exact Nat.le_refl _)
        clear hown hgrow2
        go_wp2
        go_ret
        exact ⟨_, rfl, hown2, hbel2⟩
end Go.Proofs.Qxb6002408a
