/-
  A byte slice of the call's own that is appended to: what is carried from append to append.
-/
import Derived.Test.Qxb6603079aDoorAll
import Derived.OwnWalk
namespace Go.Proofs.Qxb6603079aDoor
open Go.RowKit Plain

theorem infoByte : (Tryd.prog.info? 5).map (fun i => (i.zero, i.size, i.bytes)) = some (some (.int .u8 0), 1, 1) := by kernel_rfl

/-- The slice v owns the bytes l, in blocks from B on. -/
def Out (B : Nat) (v : Value) (l : List UInt8) (w : World) : Prop := w.ownsRow B 5 1 v l.length (Lib.byteCells l) ∧ B ≤ w.heap.size

theorem Out.nil (B : Nat) (w : World) (h : B ≤ w.heap.size) : Out B (.slice .none 0 0) [] w := ⟨World.ownsRow_nil _ _ _ _, h⟩

theorem Out.alloc {B : Nat} {v : Value} {l : List UInt8} {w : World} (h : Out B v l w) (o : Obj) : Out B v l (w.alloc o) :=
  ⟨h.1.alloc o, by have := h.2; simp; omega⟩

/-- One byte more. -/
theorem push1 {ops : Array Oper} {rest : List Oper} {o : Oper} {a : Act} {Q : Exit → Act → World → Prop} (hgd : o.guard = .none) (s x : Operand)
    (ho : o.op = .call { callee := .builtin .append, args := #[s, x], argTypes := #[27, 27] })
    {B : Nat} {v : Value} {l : List UInt8} {w : World} (hown : Out B v l w) (c : UInt8) (z : Int) (hz : (c.toNat : Int) = z) (T : TypeId) (hs : a.eval s = v) (hx : a.eval x = .slice (some ⟨w.heap.size, 0, .none⟩) 1 1)
    (hl : l.length ≤ 1000000) (h : ∀ v' w', Out B v' (l ++ [c]) w' → Below B w w' → wpList Tryd.prog ops Q rest (a.put o.dst v') w') :
    wpList Tryd.prog ops Q (o :: rest) a (w.alloc (.cells #[.int .u8 z] T)) := by
  obtain ⟨i0, hi, hz0, hz1, hz2⟩ := info_parts infoByte
  subst hz
  have hB := hown.2
  refine wpList_append_own _ hgd s x 27 ho B 5 i0 (.int .u8 0) 1 1 Tryd.underlying27 hi hz0 hz1 hz2 rfl (by decide) v l.length (Lib.byteCells l) hs (hown.1.alloc _) ⟨w.heap.size, 0, .none⟩ 1 1 [Value.int .u8 (c.toNat : Int)] hx rfl ?_ ?_ (by unfold maxLen; omega) (by omega) (by simp; omega) ?_
  · intro j u' hj
    match j, hj with
    | 0, hj => simp at hj; subst hj; simp [Addr.add]
  · intro u' hu'
    simp at hu'
    subst hu'
    rfl
  · intro v' w' hown' hgrow _
    have hb : Below B w w' := ((Below.refl B w).alloc hB _).grown hgrow (by simp; omega) (fun k hk => (hown.1.lt k hk).1)
    refine h v' w' ⟨?_, Nat.le_trans hB hb.size⟩ hb
    rw [Lib.byteCells_append, List.length_append]
    exact hown'

/-- A row of bytes that lies somewhere, appended. -/
theorem pushRow {ops : Array Oper} {rest : List Oper} {o : Oper} {a : Act} {Q : Exit → Act → World → Prop} (hgd : o.guard = .none) (s x : Operand)
    (ho : o.op = .call { callee := .builtin .append, args := #[s, x], argTypes := #[27, 27] })
    {B : Nat} {v : Value} {l : List UInt8} {w : World} (hown : Out B v l w) (r : List UInt8) (b i n cap : Nat) (hn : r.length = n) (hs : a.eval s = v) (hx : a.eval x = .slice (some ⟨b, i, .none⟩) n cap)
    (hr : ∀ j (hj : j < r.length), w.cell? ⟨b, i + j, .none⟩ = some (.int .u8 (r[j].toNat : Int)))
    (hl : l.length ≤ 1000000) (hrl : r.length ≤ 1000000) (h : ∀ v' w', Out B v' (l ++ r) w' → Below B w w' → wpList Tryd.prog ops Q rest (a.put o.dst v') w') :
    wpList Tryd.prog ops Q (o :: rest) a w := by
  obtain ⟨i0, hi, hz0, hz1, hz2⟩ := info_parts infoByte
  subst hn
  have hB := hown.2
  refine wpList_append_own _ hgd s x 27 ho B 5 i0 (.int .u8 0) 1 1 Tryd.underlying27 hi hz0 hz1 hz2 rfl (by decide) v l.length (Lib.byteCells l) hs hown.1 ⟨b, i, .none⟩ r.length cap (Lib.byteCells r) hx (by rw [Lib.byteCells_length]; omega) ?_ ?_ (by unfold maxLen; omega) (by omega) hB ?_
  · intro j u' hj
    unfold Lib.byteCells at hj
    rw [List.getElem?_map, Option.map_eq_some_iff] at hj
    obtain ⟨y, hy, rfl⟩ := hj
    obtain ⟨hjl, rfl⟩ := List.getElem?_eq_some_iff.1 hy
    rw [Lib.add_plain]
    exact hr j hjl
  · intro u' hu'
    unfold Lib.byteCells at hu'
    obtain ⟨y, _, rfl⟩ := List.mem_map.1 hu'
    rfl
  · intro v' w' hown' hgrow _
    have hb : Below B w w' := (Below.refl B w).grown hgrow hB (fun k hk => (hown.1.lt k hk).1)
    refine h v' w' ⟨?_, Nat.le_trans hB hb.size⟩ hb
    rw [Lib.byteCells_append, List.length_append]
    exact hown'

/-- 'string(out)' of what is owned. -/
theorem Out.text {B : Nat} {v : Value} {l : List UInt8} {w : World} (h : Out B v l w) (h0 : l ≠ []) : (convert 27 9 v).run Tryd.prog w = .ok (.string ⟨l.toArray⟩) w := by
  have hown := h.1
  rcases hown.2 with ⟨_, hn⟩ | ⟨g, cap, cur, rfl, _, _, _, _, _, _⟩
  · exact absurd (List.length_eq_zero_iff.1 hn) h0
  · exact run_convert_bytes_back (P := Tryd.prog) w 27 9 5 ⟨g, 0, .none⟩ cap l Tryd.underlying27 Tryd.underlying5 Tryd.underlying9 (fun j hj => hown.cells (g := g) rfl j _ (by simp [Lib.byteCells, hj]))
end Go.Proofs.Qxb6603079aDoor
