/-
  What is carried from call to call inside writeInteger: the builder and what it holds, the two boxed structs, the tables.
-/
import Derived.Test.Qxb6603072aDoorDec
namespace Go.Proofs.Qxb6603072aDoor
open Go.RowKit Plain

theorem atF_below {T e : TypeId} {B b : Nat} {p : Value} {bs : List Value} {W W' : World} (h : Lib.BuilderAtF T e B b p bs W) (hb : Below W.heap.size W W') : Lib.BuilderAtF T e B b p bs W' := by
  obtain ⟨hB, v, hv, hown, hne⟩ := h
  have hlt : b < W.heap.size := (Array.getElem?_eq_some_iff.1 hv).1
  exact ⟨hB, v, (hb.block b hlt).trans hv, hown.kept (row := .none) ⟨hb.os, hb.tape, hb.output, hb.size, fun k hk _ => hb.block k hk⟩ (Classical.em _), hne⟩

theorem isF_below {T e : TypeId} {B b : Nat} {bs : List Value} {W W' : World} (h : Lib.IsBuilderF T e B b bs W) (hb : Below W.heap.size W W') : Lib.IsBuilderF T e B b bs W' :=
  h.elim (fun x => .inl (atF_below x hb)) (fun x => .inr (atF_below x hb))

/-- The builder in block b holds l; the boxes of the two structs lie in blocks N and N + 1. -/
def St (B b N : Nat) (c1 c2 : Array Value) (l : List UInt8) (W : World) : Prop :=
  Lib.IsBuilderF 33 5 B b (Lib.byteCells l) W ∧ B ≤ W.heap.size ∧ 2 < B ∧ Tabs W ∧ W.heap[N]? = some (.cells c1 40) ∧ W.heap[N + 1]? = some (.cells c2 42) ∧ b < N

theorem St.below {B b N : Nat} {c1 c2 : Array Value} {l : List UInt8} {W W' : World} (h : St B b N c1 c2 l W) (hb : Below W.heap.size W W') : St B b N c1 c2 l W' := by
  obtain ⟨h1, h2, h3, h4, h5, h6, h7⟩ := h
  have l1 : N < W.heap.size := (Array.getElem?_eq_some_iff.1 h5).1
  have l2 : N + 1 < W.heap.size := (Array.getElem?_eq_some_iff.1 h6).1
  exact ⟨isF_below h1 hb, Nat.le_trans h2 hb.size, h3, h4.below hb (by omega), (hb.block N l1).trans h5, (hb.block (N + 1) l2).trans h6, h7⟩

theorem St.wrote {B b N : Nat} {c1 c2 : Array Value} {l l' : List UInt8} {W W' : World} (h : St B b N c1 c2 l W) (hI : Lib.BuilderAtF 33 5 B b (.pointer (some ⟨b, 0, .none⟩)) (Lib.byteCells l') W')
    (hb : Below B W W') (hk : Lib.OthersKept 5 (some b) W W') : St B b N c1 c2 l' W' := by
  obtain ⟨h1, h2, h3, h4, h5, h6, h7⟩ := h
  refine ⟨.inr hI, Nat.le_trans h2 hb.size, h3, h4.below hb h3, hk N _ h5 ?_ ?_, hk (N + 1) _ h6 ?_ ?_, h7⟩
  · intro e; have := Option.some.inj e; omega
  · intro c fz e; injection e with _ e2 _; cases e2
  · intro e; have := Option.some.inj e; omega
  · intro c fz e; injection e with _ e2 _; cases e2

theorem St.cell1 {B b N : Nat} {c1 c2 : Array Value} {l : List UInt8} {W : World} (h : St B b N c1 c2 l W) (j : Nat) : W.cell? ⟨N, j, .none⟩ = c1[j]? := Lib.cell_of_heap h.2.2.2.2.1 j
theorem St.cell2 {B b N : Nat} {c1 c2 : Array Value} {l : List UInt8} {W : World} (h : St B b N c1 c2 l W) (j : Nat) : W.cell? ⟨N + 1, j, .none⟩ = c2[j]? := Lib.cell_of_heap h.2.2.2.2.2.1 j

theorem St.byte {B b N : Nat} {c1 c2 : Array Value} {l : List UInt8} {W : World} (h : St B b N c1 c2 l W) (c : UInt8) (z : Int) (hz : (c.toNat : Int) = z) (hl : l.length ≤ 1000) :
    Calls Tryd.prog 14 #[.pointer (some ⟨b, 0, .none⟩), .int .u8 z] W fun e W' => e = .returned .nilIface ∧ St B b N c1 c2 (l ++ [c]) W' ∧ Below B W W' := by
  subst hz
  refine (Tryd.Builder_WriteByte_k B b (Lib.byteCells l) (c.toNat : Int) W h.1 (by rw [Lib.byteCells_length]; omega) h.2.1).mono ?_
  rintro e W' ⟨rfl, hI, hb, hk⟩
  refine ⟨rfl, h.wrote ?_ hb hk, hb⟩
  rw [Lib.byteCells_append]
  exact hI

theorem St.str {B b N : Nat} {c1 c2 : Array Value} {l : List UInt8} {W : World} (h : St B b N c1 c2 l W) (s : ByteArray) (hl : l.length ≤ 1000) (hs : s.size ≤ 1000) :
    Calls Tryd.prog 9 #[.pointer (some ⟨b, 0, .none⟩), .string s] W fun e W' => e = .returned (.tuple #[.int .i64 s.size, .nilIface]) ∧ St B b N c1 c2 (l ++ s.data.toList) W' ∧ Below B W W' := by
  refine (Tryd.Builder_WriteString_k B b (Lib.byteCells l) s W h.1 (by rw [Lib.byteCells_length]; omega) h.2.1).mono ?_
  rintro e W' ⟨rfl, hI, hb, hk⟩
  refine ⟨rfl, h.wrote ?_ hb hk, hb⟩
  rw [Lib.byteCells_append]
  exact hI

theorem St.fmt8 {B b N : Nat} {c1 c2 : Array Value} {l : List UInt8} {W : World} (h : St B b N c1 c2 l W) (u : Nat) (hu : u < 18446744073709551616) :
    Calls Tryd.prog 15 #[.int .u64 u, .int .i64 8] W fun e W' => e = .returned (.string ⟨(num 8 u).toArray⟩) ∧ St B b N c1 c2 l W' ∧ Below B W W' :=
  (fu_oct u hu W h.2.2.2.1).mono fun _ _ ⟨he, hb⟩ => ⟨he, h.below hb, hb.mono h.2.1⟩
theorem St.fmt16 {B b N : Nat} {c1 c2 : Array Value} {l : List UInt8} {W : World} (h : St B b N c1 c2 l W) (u : Nat) (hu : u < 18446744073709551616) :
    Calls Tryd.prog 15 #[.int .u64 u, .int .i64 16] W fun e W' => e = .returned (.string ⟨(num 16 u).toArray⟩) ∧ St B b N c1 c2 l W' ∧ Below B W W' :=
  (fu_hex u hu W h.2.2.2.1).mono fun _ _ ⟨he, hb⟩ => ⟨he, h.below hb, hb.mono h.2.1⟩
theorem St.fmt10 {B b N : Nat} {c1 c2 : Array Value} {l : List UInt8} {W : World} (h : St B b N c1 c2 l W) (u : Nat) (hu : u < 18446744073709551616) :
    Calls Tryd.prog 15 #[.int .u64 u, .int .i64 10] W fun e W' => e = .returned (.string ⟨(num 10 u).toArray⟩) ∧ St B b N c1 c2 l W' ∧ Below B W W' :=
  (fu_dec u hu W h.2.2.2.1).mono fun _ _ ⟨he, hb⟩ => ⟨he, h.below hb, hb.mono h.2.1⟩

theorem St.start {B b : Nat} {l : List UInt8} {w : World} (h : Lib.IsBuilderF 33 5 B b (Lib.byteCells l) w) (hBw : B ≤ w.heap.size) (hB : 2 < B) (ht : Tabs w) (hb : b < w.heap.size) (c1 c2 : Array Value) :
    St B b w.heap.size c1 c2 l ((w.alloc (.cells c1 40)).alloc (.cells c2 42)) := by
  have hs : (w.alloc (.cells c1 40)).heap.size = w.heap.size + 1 := by simp
  have b1 := below_alloc w (.cells c1 40)
  have b2 : Below w.heap.size (w.alloc (.cells c1 40)) ((w.alloc (.cells c1 40)).alloc (.cells c2 42)) := (below_alloc _ _).mono (by omega)
  have bb := b1.trans b2
  refine ⟨isF_below h bb, by simp; omega, hB, ht.below bb (by omega), ?_, ?_, hb⟩
  · rw [Lib.alloc_old _ _ _ (by omega)]
    exact heap_alloc_new w _
  · rw [← hs]; exact heap_alloc_new _ _

/-- The sign's bytes, and what stands ahead of the numeral. -/
def sgn (neg : Bool) (sg : Int) : List UInt8 := if neg then [45] else if sg = 1 then [43] else []
def lead (bs : Int) : List UInt8 := if bs = 1 then [48] else if bs = 3 then [48, 120] else []
end Go.Proofs.Qxb6603072aDoor
