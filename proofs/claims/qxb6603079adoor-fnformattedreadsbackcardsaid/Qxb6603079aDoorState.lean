/-
  What is carried from call to call inside formatted: the builder and what it holds, the table of the powers of ten.
-/
import Derived.Test.Qxb6603079aDoorRows
import Derived.Test.Qxb6603079aDoorPlain
import Derived.Test.Qxb6603079aDoorShelf
import Derived.WalkKit
import Derived.WalkLawsBesides
import Derived.WalkSpells
import Derived.Outline
import Derived.Deep.QuietTactic
import Derived.BigQuiet
import Derived.BigCall
import Derived.BigGuard
import Derived.Lib.Strings
import Derived.Lib.ItoaMem
import Derived.Laws.IdiomStrings
namespace Go.Proofs.Qxb6603079aDoor
open Go.RowKit Plain

theorem ret_int {k : IntKind} {a b : Int} (h : a = b) : Ending.returned (.int k a) = .returned (.int k b) := by rw [h]
theorem ret_str {a b : ByteArray} (h : a = b) : Ending.returned (.string a) = .returned (.string b) := by rw [h]
theorem ret_bool {a b : Bool} (h : a = b) : Ending.returned (.bool a) = .returned (.bool b) := by rw [h]

theorem below_alloc (w : World) (o : Obj) : Below w.heap.size w (w.alloc o) := (Below.refl _ w).alloc (Nat.le_refl _) o
theorem below_drewN {B : Nat} {a w : World} (h : Below B a w) (n : Nat) : Below B a (w.drewN n) := ⟨h.os, h.tape, h.output, h.size, h.block⟩
theorem below_grow (w : World) (k : Nat) (os : Array Obj) : Below w.heap.size w (Sort.grow (w.drewN k) os) :=
  ⟨rfl, rfl, rfl, by simp [Sort.grow], fun i hi => by
    show (w.heap ++ os)[i]? = w.heap[i]?
    rw [Array.getElem?_append_left hi]⟩

theorem atF_below {T e : TypeId} {B b : Nat} {p : Value} {bs : List Value} {W W' : World} (h : Lib.BuilderAtF T e B b p bs W) (hb : Below W.heap.size W W') : Lib.BuilderAtF T e B b p bs W' := by
  obtain ⟨hB, v, hv, hown, hne⟩ := h
  have hlt : b < W.heap.size := (Array.getElem?_eq_some_iff.1 hv).1
  exact ⟨hB, v, (hb.block b hlt).trans hv, hown.kept (row := .none) ⟨hb.os, hb.tape, hb.output, hb.size, fun k hk _ => hb.block k hk⟩ (Classical.em _), hne⟩
theorem isF_below {T e : TypeId} {B b : Nat} {bs : List Value} {W W' : World} (h : Lib.IsBuilderF T e B b bs W) (hb : Below W.heap.size W W') : Lib.IsBuilderF T e B b bs W' :=
  h.elim (fun x => .inl (atF_below x hb)) (fun x => .inr (atF_below x hb))

/-- The table of the powers of ten is as its initialiser lays it. -/
def Tab (w : World) : Prop := 0 < w.heap.size ∧ Lib.TabIs Tryd.prog w powName .u64 Lib.pow10Tab
theorem pow_global : Tryd.prog.globalNamed powName = some 0 := by kernel_rfl
theorem Tab.below {B : Nat} {w w' : World} (h : Tab w) (hb : Below B w w') (hB : 0 < B) : Tab w' :=
  ⟨Nat.lt_of_lt_of_le h.1 hb.size, var?_below hb pow_global hB h.2⟩

/-- The builder in block B holds l. -/
def St (B : Nat) (l : List UInt8) (W : World) : Prop :=
  Lib.IsBuilderF 34 5 B B (Lib.byteCells l) W ∧ B ≤ W.heap.size ∧ 0 < B ∧ Tab W

theorem St.below {B : Nat} {l : List UInt8} {W W' : World} (h : St B l W) (hb : Below W.heap.size W W') : St B l W' :=
  ⟨isF_below h.1 hb, Nat.le_trans h.2.1 hb.size, h.2.2.1, h.2.2.2.below hb h.2.2.2.1⟩

theorem St.wrote {B : Nat} {l l' : List UInt8} {W W' : World} (h : St B l W) (hI : Lib.BuilderAtF 34 5 B B (.pointer (some ⟨B, 0, .none⟩)) (Lib.byteCells l') W') (hb : Below B W W') : St B l' W' :=
  ⟨.inr hI, Nat.le_trans h.2.1 hb.size, h.2.2.1, h.2.2.2.below hb h.2.2.1⟩

theorem St.byte {B : Nat} {l : List UInt8} {W : World} (h : St B l W) (c : UInt8) (z : Int) (hz : (c.toNat : Int) = z) (hl : l.length ≤ 1000000) :
    Calls Tryd.prog 17 #[.pointer (some ⟨B, 0, .none⟩), .int .u8 z] W fun e W' => e = .returned .nilIface ∧ St B (l ++ [c]) W' ∧ Below B W W' := by
  subst hz
  refine (Tryd.Builder_WriteByte_k B B (Lib.byteCells l) (c.toNat : Int) W h.1 (by rw [Lib.byteCells_length]; omega) h.2.1).mono ?_
  rintro e W' ⟨rfl, hI, hb, hk⟩
  refine ⟨rfl, h.wrote ?_ hb, hb⟩
  rw [Lib.byteCells_append]
  exact hI

theorem St.str {B : Nat} {l : List UInt8} {W : World} (h : St B l W) (s : ByteArray) (hl : l.length ≤ 1000000) (hs : s.size ≤ 1000000) :
    Calls Tryd.prog 18 #[.pointer (some ⟨B, 0, .none⟩), .string s] W fun e W' => e = .returned (.tuple #[.int .i64 s.size, .nilIface]) ∧ St B (l ++ s.data.toList) W' ∧ Below B W W' := by
  refine (Tryd.Builder_WriteString_k B B (Lib.byteCells l) s W h.1 (by rw [Lib.byteCells_length]; omega) h.2.1).mono ?_
  rintro e W' ⟨rfl, hI, hb, hk⟩
  refine ⟨rfl, h.wrote ?_ hb, hb⟩
  rw [Lib.byteCells_append]
  exact hI

theorem repeat_zero : ∀ c : Nat, Lib.repeatL (⟨#[48]⟩ : ByteArray).data.toList c = List.replicate c 48
  | 0 => rfl
  | c + 1 => by rw [Lib.repeatL, repeat_zero c]; rfl

theorem St.rep {B : Nat} {l : List UInt8} {W : World} (h : St B l W) (c : Nat) (hc : c ≤ 1000000) :
    Calls Tryd.prog 19 #[.string ⟨#[48]⟩, .int .i64 c] W fun e W' => e = .returned (.string ⟨(List.replicate c 48).toArray⟩) ∧ St B l W' ∧ Below B W W' := by
  refine (Tryd.strings_Repeat ⟨#[48]⟩ c W (by omega) (by show 1 * c ≤ _; omega)).mono ?_
  rintro e W' ⟨rfl, hb⟩
  rw [repeat_zero]
  exact ⟨rfl, h.below hb, hb.mono h.2.1⟩

theorem St.num {B : Nat} {l : List UInt8} {W : World} (h : St B l W) (n : Int) (h0 : -9223372036854775808 ≤ n) (h1 : n ≤ 9223372036854775807) :
    Calls Tryd.prog 20 #[.int .i64 n, .int .i64 10] W fun e W' => e = .returned (.string ⟨(Lib.itoa n).toArray⟩) ∧ St B l W' ∧ Below B W W' := by
  refine (Tryd.strconv_FormatInt_10 n h0 h1 W h.2.2.2.2).mono ?_
  rintro e W' ⟨rfl, k, os, rfl⟩
  exact ⟨rfl, h.below (below_grow W k os), (below_grow W k os).mono h.2.1⟩

theorem St.all {B : Nat} {l : List UInt8} {W : World} (h : St B l W) :
    Calls Tryd.prog 21 #[.pointer (some ⟨B, 0, .none⟩)] W fun e W' => ∃ s : ByteArray, Hid (s = ⟨l.toArray⟩) ∧ e = .returned (.string s) ∧ Below B W W' := by
  refine (Tryd.Builder_String_any_k B B l W h.1 h.2.1).mono ?_
  rintro e W' ⟨rfl, _, hb, _⟩
  exact ⟨_, rfl, rfl, hb⟩

theorem St.start {w : World} (ht : Tab w) : St w.heap.size [] (w.alloc (.cells #[.pointer .none, .slice .none 0 0] 34)) :=
  ⟨Lib.IsBuilderF.of (Lib.fresh_isBuilder 34 5 w), by simp, ht.1, ht.below (below_alloc w _) ht.1⟩

theorem extract_len (s : ByteArray) (a b : Nat) : (s.extract a b).size ≤ s.size := by
  show (s.extract a b).data.size ≤ s.data.size
  have h := congrArg List.length (Lib.extract_data s a b)
  simp only [Array.length_toList, List.length_take, List.length_drop] at h
  omega
theorem size_list (s : ByteArray) : s.data.toList.length = s.size := by simp
theorem text_size (l : List UInt8) : (⟨l.toArray⟩ : ByteArray).size = l.length := rfl
theorem e45 : ((45 : UInt8).toNat : Int) = 45 := by decide
theorem e46 : ((46 : UInt8).toNat : Int) = 46 := by decide
theorem e43 : ((43 : UInt8).toNat : Int) = 43 := by decide
theorem e101 : ((101 : UInt8).toNat : Int) = 101 := by decide
end Go.Proofs.Qxb6603079aDoor
