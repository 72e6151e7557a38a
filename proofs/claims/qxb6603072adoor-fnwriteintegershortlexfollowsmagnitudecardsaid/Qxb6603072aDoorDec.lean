/-
  strconv.FormatUint at base 10, walked over the shelf's contracts of small, numDigits and formatBase10; and the three bases under one saying.
-/
import Derived.Test.Qxb6603072aDoorBits16
import Derived.BigCall
import Derived.BigGuard
namespace Go.Proofs.Qxb6603072aDoor
open Go.RowKit Go.Sort Plain

theorem holds_zero0 (w : World) (T : TypeId) (nd : Nat) (hs : nd ≤ 24) : Holds (fun (b : UInt8) => Value.int .u8 (b.toNat : Int)) (w.alloc (.cells Lib.zeros24 T)) w.heap.size 0 (Array.replicate nd (0 : UInt8)) := fun j hj => by
  have hj' : j < nd := by simpa using hj
  refine ⟨?_, World.frozen?_alloc_new _ _ _ _⟩
  rw [World.cell?_alloc_new, Lib.zeros24_at _ (by omega), getElem!_pos _ j hj]
  simp

theorem below_grow (w : World) (k : Nat) (os : Array Obj) : Below w.heap.size w (grow (w.drewN k) os) :=
  ⟨rfl, rfl, rfl, by simp [grow], fun i hi => by
    show (w.heap ++ os)[i]? = w.heap[i]?
    rw [Array.getElem?_append_left hi]⟩

theorem below_alloc (w : World) (o : Obj) : Below w.heap.size w (w.alloc o) := (Below.refl _ w).alloc (Nat.le_refl _) o

theorem below_put (w : World) (o : Obj) (dk : Array UInt8) (k : Nat) : Below w.heap.size w ((putRow (fun (b : UInt8) => Value.int .u8 (b.toNat : Int)) (w.alloc o) w.heap.size 0 dk).drewN k) := by
  have e : ∃ os, (putRow (fun (b : UInt8) => Value.int .u8 (b.toNat : Int)) (w.alloc o) w.heap.size 0 dk).drewN k = grow (w.drewN k) os := by
    rw [alloc_eq_grow]
    obtain ⟨os', _, e⟩ := putRow_grow_new (fun (b : UInt8) => Value.int .u8 (b.toNat : Int)) w #[o] w.heap.size 0 dk (Nat.le_refl _)
    exact ⟨os', by rw [e]; rfl⟩
  obtain ⟨os, e⟩ := e
  rw [e]
  exact below_grow w k os

theorem arr24 : Tryd.prog.arrayLen 49 = 24 := by simp [Program.arrayLen, Tryd.underlying49]

theorem slice24 (N m : Nat) (hm : m ≤ 24) (W : World) :
    (Instr.sliceAt 49 (.pointer (some ⟨N, 0, none⟩)) none (some (.int .i64 (m : Int))) none).run Tryd.prog W = .ok (.slice (some ⟨N, 0, none⟩) m 24) W := by
  rw [run_sliceAt_array_h W 49 ⟨N, 0, none⟩ (by simp [Program.arrayLen, Program.elem, Tryd.underlying49]) .i64 (m : Int) (by omega) (by rw [arr24]; omega), arr24]
  go_simp

set_option maxHeartbeats 3200000 in
set_option maxRecDepth 100000 in
theorem fu_10 (u : Nat) (hu64 : u < 18446744073709551616) (w : World) (htab : Lib.TabIs Tryd.prog w powName .u64 Lib.pow10Tab) :
    Calls Tryd.prog 15 #[.int .u64 u, .int .i64 10] w fun e w' => e = .returned (.string ⟨(num 10 u).toArray⟩) ∧ Below w.heap.size w w' := by
  rw [← dec_num]
  by_cases hs : u < 100
  · go_enter Tryd.func15, Tryd.ntmps15
    go_wp2_with (first
      | (go_at_call 19; refine (Tryd.internal_strconv_small u hs _).mono ?_; rintro e w' ⟨rfl, rfl⟩)
      | go_in)
    go_ret
    exact ⟨rfl, Below.refl _ _⟩
  · have hu1 : 1 ≤ u := by omega
    have hnd20 : Lib.nDigits u ≤ 20 := by have := Lib.numDigits_eq u hu1 hu64; split at this <;> omega
    have hsl := slice24 w.heap.size (Lib.nDigits u) (by omega)
    have hH0 := holds_zero0 w 49 (Lib.nDigits u) (by omega)
    have hfmt := Tryd.internal_strconv_formatBase10 w.heap.size 0 24 u (Array.replicate (Lib.nDigits u) 0) (w.alloc (.cells Lib.zeros24 49)) hH0 (by rw [Array.size_replicate]; exact Lib.lt_pow_nDigits u) hu64 (by rw [Array.size_replicate]; omega)
    rw [Array.size_replicate] at hfmt
    have HH0 := Lib.hid hH0
    clear hH0
    have hz : ∀ W, (zeroValue 49).run Tryd.prog W = .ok (.agg Lib.zeros24) W := fun _ => by kernel_rfl
    go_enter Tryd.func15, Tryd.ntmps15
    go_wp2_with (first
      | (go_at_call 20; refine (Tryd.internal_strconv_numDigits u hu1 hu64 _ (Lib.tabIs_alloc htab _)).mono ?_; rintro e w' ⟨rfl, rfl⟩)
      | (go_at_call 18; go_in))
    go_at_call 21
    refine hfmt.mono ?_
    rintro e w' ⟨rfl, k, v', dk, rfl, hF⟩
    have hcv : (convert 31 9 (.slice (some ⟨w.heap.size, 0, none⟩) (Lib.nDigits u) 24)).run Tryd.prog ((putRow (fun (b : UInt8) => Value.int .u8 (b.toNat : Int)) (w.alloc (.cells Lib.zeros24 49)) w.heap.size 0 dk).drewN k) = .ok (.string ⟨(Lib.decDigits u).toArray⟩) ((putRow (fun (b : UInt8) => Value.int .u8 (b.toNat : Int)) (w.alloc (.cells Lib.zeros24 49)) w.heap.size 0 dk).drewN k) := by
      have h := run_convert_bytes_back (P := Tryd.prog) ((putRow (fun (b : UInt8) => Value.int .u8 (b.toNat : Int)) (w.alloc (.cells Lib.zeros24 49)) w.heap.size 0 dk).drewN k) 31 9 5 ⟨w.heap.size, 0, none⟩ 24 (Lib.decDigits u) Tryd.underlying31 Tryd.underlying5 Tryd.underlying9 (fun j hj => by
        rw [Lib.row_is_numeral hF j hj, Lib.add_plain, World.cell?_drewN]
        exact cell?_putRow (fun (b : UInt8) => Value.int .u8 (b.toNat : Int)) _ w.heap.size 0 _ dk HH0.out (by rw [hF.size, Array.size_replicate]) j (by rw [hF.size]; rw [Lib.decDigits_length] at hj; exact hj))
      rw [Lib.decDigits_length] at h
      exact h
    go_wp2
    go_ret
    exact ⟨rfl, below_put _ _ _ _⟩

/-- What the walks ask of the tables, in one. -/
def Tabs (w : World) : Prop := 2 < w.heap.size ∧ w.cell? ⟨2, 7, none⟩ = some (.int .u8 3) ∧ w.cell? ⟨2, 15, none⟩ = some (.int .u8 4) ∧ Lib.TabIs Tryd.prog w powName .u64 Lib.pow10Tab

theorem pow_global : Tryd.prog.globalNamed powName = some 0 := by kernel_rfl

theorem Tabs.below {B : Nat} {w w' : World} (h : Tabs w) (hb : Below B w w') (hB : 2 < B) : Tabs w' := by
  obtain ⟨h1, h2, h3, h4⟩ := h
  refine ⟨Nat.lt_of_lt_of_le h1 hb.size, ?_, ?_, ?_⟩
  · exact (hb.cell (p := ⟨2, 7, none⟩) hB).trans h2
  · exact (hb.cell (p := ⟨2, 15, none⟩) hB).trans h3
  · exact var?_below hb pow_global (by omega) h4

/-- The base that the base byte names. -/
def baseOf (base : Int) : Nat := if base = 1 then 8 else if base = 3 then 16 else 10

theorem fu_oct (u : Nat) (hu : u < 18446744073709551616) (w : World) (ht : Tabs w) :
    Calls Tryd.prog 15 #[.int .u64 u, .int .i64 8] w fun e w' => e = .returned (.string ⟨(num 8 u).toArray⟩) ∧ Below w.heap.size w w' :=
  (fu_8 u hu w ht.1 ht.2.1).mono fun e w' ⟨he, cs, hw⟩ => ⟨he, by rw [hw]; exact below_alloc w _⟩
theorem fu_hex (u : Nat) (hu : u < 18446744073709551616) (w : World) (ht : Tabs w) :
    Calls Tryd.prog 15 #[.int .u64 u, .int .i64 16] w fun e w' => e = .returned (.string ⟨(num 16 u).toArray⟩) ∧ Below w.heap.size w w' :=
  (fu_16 u hu w ht.1 ht.2.2.1).mono fun e w' ⟨he, cs, hw⟩ => ⟨he, by rw [hw]; exact below_alloc w _⟩
theorem fu_dec (u : Nat) (hu : u < 18446744073709551616) (w : World) (ht : Tabs w) :
    Calls Tryd.prog 15 #[.int .u64 u, .int .i64 10] w fun e w' => e = .returned (.string ⟨(num 10 u).toArray⟩) ∧ Below w.heap.size w w' :=
  fu_10 u hu w ht.2.2.2
end Go.Proofs.Qxb6603072aDoor
