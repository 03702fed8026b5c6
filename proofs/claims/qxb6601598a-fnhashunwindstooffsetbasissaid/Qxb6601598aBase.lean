/-
  The seat's own small laws: a byte slice that reads as a list of numbers ('Rd'), a byte slice that the call itself owns ('Own'), append over the two. No program is named here.
-/
import Derived.WalkKit
import Derived.WalkSpells
import Derived.WalkLawsBesides
import Derived.Laws.AppendOwnNone
namespace Go.Proofs.Qxb6601598a
open Go.RowKit

/-- A list of numbers as cells of bytes. -/
def bytesV (bs : List Int) : List Value := bs.map (Value.int .u8)

theorem bytesV_length (bs : List Int) : (bytesV bs).length = bs.length := by simp [bytesV]
theorem bytesV_append (a b : List Int) : bytesV (a ++ b) = bytesV a ++ bytesV b := by simp [bytesV]
theorem bytesV_get (bs : List Int) (j : Nat) (h : j < bs.length) : (bytesV bs)[j]? = some (.int .u8 (bs.getD j 0)) := by
  simp [bytesV, List.getD, h]
theorem bytesV_one (bs : List Int) : ∀ u ∈ bytesV bs, u.oneCell' = true := by
  intro u hu
  obtain ⟨_, _, rfl⟩ := List.mem_map.1 hu
  rfl

/-- The slice value v reads, in the world w, as the numbers bs: it is empty, or its cells lie behind a plain address. -/
def Rd (w : World) (v : Value) (bs : List Int) : Prop :=
  (∃ ao c, v = .slice ao 0 c ∧ bs = [] ∧ (ao = none → c = 0) ∧ c ≤ maxLen) ∨
  (∃ b off c, v = .slice (some ⟨b, off, none⟩) bs.length c ∧ 0 < bs.length ∧ bs.length ≤ c ∧ c ≤ maxLen ∧ b < w.heap.size ∧
    ∀ j, j < bs.length → w.cell? ⟨b, off + j, none⟩ = some (.int .u8 (bs.getD j 0)))

/-- The slice value v is the call's own and holds the numbers bs. -/
def Own (w : World) (base : Nat) (e : TypeId) (v : Value) (bs : List Int) : Prop :=
  w.ownsRow base e 1 v bs.length (bytesV bs)

theorem Own.nil (w : World) (base : Nat) (e : TypeId) : Own w base e (.slice none 0 0) [] := World.ownsRow_nil w base e 1

theorem Own.rd {w : World} {base : Nat} {e : TypeId} {v : Value} {bs : List Int} (h : Own w base e v bs) : Rd w v bs := by
  have h0 := h
  obtain ⟨h1, h2⟩ := h
  rcases h2 with ⟨rfl, hn⟩ | ⟨g, cap, cur, rfl, hb, hg, hnc, hcm, hcs, htake⟩
  · exact .inl ⟨none, 0, rfl, List.eq_nil_of_length_eq_zero hn, fun _ => rfl, Nat.zero_le _⟩
  · by_cases hz : bs.length = 0
    · have hbs := List.eq_nil_of_length_eq_zero hz
      subst hbs
      exact .inl ⟨_, cap, rfl, rfl, (fun h => by cases h), hcm⟩
    · refine .inr ⟨g, 0, cap, rfl, by omega, hnc, hcm, (Array.getElem?_eq_some_iff.1 hg).1, fun j hj => ?_⟩
      have := World.ownsRow.cellAt h0 j (by omega)
      rw [Nat.zero_add, this, bytesV_get bs j hj]

theorem Own.alloc {w : World} {base : Nat} {e : TypeId} {v : Value} {bs : List Int} (h : Own w base e v bs) (o : Obj) : Own (w.alloc o) base e v bs := World.ownsRow.alloc h o
theorem Own.drew {w : World} {base : Nat} {e : TypeId} {v : Value} {bs : List Int} (h : Own w base e v bs) : Own w.drew base e v bs := h
theorem Own.kept {w w' : World} {base : Nat} {e : TypeId} {v : Value} {bs : List Int} {row : Option Nat} (h : Own w base e v bs) (hg : w.grownBy w' row) (hne : v.ownBlock = none ∨ v.ownBlock ≠ row) : Own w' base e v bs :=
  World.ownsRow.kept h hg hne
theorem Own.below {w w' : World} {base B : Nat} {e : TypeId} {v : Value} {bs : List Int} (h : Own w base e v bs) (hb : Below B w w') (hB : w.heap.size ≤ B) : Own w' base e v bs := by
  refine ⟨h.1, ?_⟩
  rcases h.2 with hn | ⟨g, cap, cur, rfl, hb', hgg, rest⟩
  · exact .inl hn
  · have := (Array.getElem?_eq_some_iff.1 hgg).1
    exact .inr ⟨g, cap, cur, rfl, hb', by rw [hb.block g (by omega)]; exact hgg, rest⟩
theorem Own.mono {w : World} {base base' : Nat} {e : TypeId} {v : Value} {bs : List Int} (h : Own w base e v bs) (hb : base' ≤ base) : Own w base' e v bs := by
  refine ⟨h.1, ?_⟩
  rcases h.2 with hn | ⟨g, cap, cur, rfl, hb', rest⟩
  · exact .inl hn
  · exact .inr ⟨g, cap, cur, rfl, by omega, rest⟩
theorem Own.lt {w : World} {base : Nat} {e : TypeId} {v : Value} {bs : List Int} (h : Own w base e v bs) : ∀ k, v.ownBlock = some k → base ≤ k ∧ k < w.heap.size := World.ownsRow.lt h

/-- A slice literal of one byte, just built. -/
theorem Own.lit (w : World) (base : Nat) (e : TypeId) (x : Int) (hb : base ≤ w.heap.size) : Own (w.alloc (.cells #[.int .u8 x] e)) base e (.slice (some ⟨w.heap.size, 0, none⟩) 1 1) [x] :=
  World.ownsRow_lit w #[.int .u8 x] 1 hb (by unfold maxLen; omega) rfl

theorem Rd.kept {w w' : World} {v : Value} {bs : List Int} (h : Rd w v bs) (hc : ∀ a u, w.cell? a = some u → w'.cell? a = some u) (hs : w.heap.size ≤ w'.heap.size) : Rd w' v bs := by
  rcases h with h | ⟨b, off, c, h1, h2, h3, h4, h5, h6⟩
  · exact .inl h
  · exact .inr ⟨b, off, c, h1, h2, h3, h4, by omega, fun j hj => hc _ _ (h6 j hj)⟩

/-- What reads from old blocks reads so in a later world. -/
theorem Rd.below {w w' : World} {B : Nat} {v : Value} {bs : List Int} (h : Rd w v bs) (hb : Below B w w') (hB : w.heap.size ≤ B) : Rd w' v bs := by
  rcases h with h | ⟨b, off, c, h1, h2, h3, h4, h5, h6⟩
  · exact .inl h
  · exact .inr ⟨b, off, c, h1, h2, h3, h4, by have := hb.size; omega, fun j hj => (hb.cell (p := ⟨b, off + j, none⟩) (by show b < B; omega)).trans (h6 j hj)⟩

theorem Rd.alloc {w : World} {v : Value} {bs : List Int} (h : Rd w v bs) (o : Obj) : Rd (w.alloc o) v bs :=
  h.below ((Below.refl w.heap.size w).alloc (Nat.le_refl _) o) (Nat.le_refl _)

/-- append of a slice that reads as bs, onto a slice that the call owns. -/
theorem wpList_append_rd {P : Program} {w : World} {ops : Array Oper} {rest : List Oper} {o : Oper} {a : Act} {Q : Exit → Act → World → Prop} (hgd : o.guard = none) (s x : Operand) (t : TypeId)
    (ho : o.op = .call { callee := .builtin .append, args := #[s, x], argTypes := #[t, t] })
    (base : Nat) (e : TypeId) (ht : P.underlying t = some (.slice e)) (hinfo : (P.info? e).map (fun i => (i.zero, i.size, i.bytes)) = some (some (.int .u8 0), 1, 1))
    (v : Value) (xs : List Int) (hs : a.eval s = v) (hown : Own w base e v xs) (vx : Value) (bs : List Int) (hx : a.eval x = vx) (hrd : Rd w vx bs)
    (hlen : xs.length + bs.length ≤ 140737488355328) (hbase : base ≤ w.heap.size)
    (h : ∀ v' w', Own w' base e v' (xs ++ bs) → w.grownBy w' v.ownBlock → wpList P ops Q rest (a.put o.dst v') w') : wpList P ops Q (o :: rest) a w := by
  obtain ⟨i, hi, hz, hsize, hby⟩ := info_parts hinfo
  have key : ∀ (ad : Addr) (c : Nat), vx = .slice (some ad) bs.length c → (∀ j, j < bs.length → w.cell? (ad.add j) = some (.int .u8 (bs.getD j 0))) → wpList P ops Q (o :: rest) a w := by
    intro ad c hv hc
    refine wpList_append_own w hgd s x t ho base e i (.int .u8 0) 1 1 ht hi hz hsize hby rfl (by omega) v xs.length (bytesV xs) hs hown ad bs.length c (bytesV bs) (hx.trans hv)
      (by rw [bytesV_length]; omega) ?_ (bytesV_one bs) (by unfold maxLen; omega) (by omega) hbase ?_
    · intro j u hu
      have hj : j < bs.length := by have := (List.getElem?_eq_some_iff.1 hu).1; rwa [bytesV_length] at this
      rw [bytesV_get bs j hj] at hu
      rw [hc j hj]; exact hu
    · intro v' w' h1 h2 _
      refine h v' w' ?_ h2
      unfold Own
      rw [bytesV_append, List.length_append]
      exact h1
  rcases hrd with ⟨ao, c, hv, rfl, hn, _⟩ | ⟨b, off, c, hv, h1, h2, h3, h4, h5⟩
  · cases ao with
    | none =>
      obtain rfl := hn rfl
      refine wpList_append_own_none hgd s x t ho base e i 1 ht hi v xs.length (bytesV xs) hs hown (hx.trans hv) ?_
      refine h v w (by simpa using hown) (World.grownBy.refl _ _)
    | some ad => exact key ad c hv (fun j hj => by simp at hj)
  · exact key _ c hv (fun j hj => by rw [Addr.add_lit]; exact h5 j hj)

end Go.Proofs.Qxb6601598a
