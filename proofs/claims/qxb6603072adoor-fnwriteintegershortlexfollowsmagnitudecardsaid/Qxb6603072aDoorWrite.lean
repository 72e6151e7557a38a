/-
  writeInteger, walked: three ways of the sign, three of the base (one theorem a way, written by a small program of ours).
-/
import Derived.Test.Qxb6603072aDoorState
namespace Go.Proofs.Qxb6603072aDoor
open Go.RowKit Plain

theorem num_size (b u : Nat) (hb : 2 ≤ b) (hu : u < 18446744073709551616) : (⟨(num b u).toArray⟩ : ByteArray).size ≤ 1000 := Nat.le_trans (num_len64 b u hb hu) (by omega)
theorem e45 : ((45 : UInt8).toNat : Int) = 45 := by decide
theorem e43 : ((43 : UInt8).toNat : Int) = 43 := by decide
theorem e48 : ((48 : UInt8).toNat : Int) = 48 := by decide
theorem size_0x : (⟨#[48, 120]⟩ : ByteArray).size ≤ 1000 := by decide

set_option maxHeartbeats 800000 in
theorem wi_neg_8 (B b : Nat) (l : List UInt8) (u : Nat) (sg : Int) (w : World) (hu : u < 18446744073709551616) (hl : l.length ≤ 100) 
    (h : Lib.IsBuilderF 33 5 B b (Lib.byteCells l) w) (hBw : B ≤ w.heap.size) (hB : 2 < B) (ht : Tabs w) (hb : b < w.heap.size) :
    Calls Tryd.prog 10 #[.pointer (some ⟨b, 0, .none⟩), .agg #[.bool true, .int .u64 u], .agg #[.int .u8 sg, .int .u8 1]] w fun e w' =>
      e = .returned (.tuple #[]) ∧ Lib.IsBuilderF 33 5 B b (Lib.byteCells (l ++ [45] ++ [48] ++ num 8 u)) w' ∧ Below B w w' := by
  have hS0 := St.start h hBw hB ht hb #[.bool true, .int .u64 u] #[.int .u8 sg, .int .u8 1]
  have HB0 : Hid (Below B w ((w.alloc (.cells #[.bool true, .int .u64 u] 40)).alloc (.cells #[.int .u8 sg, .int .u8 1] 42))) := ((Below.refl B w).alloc hBw _).alloc (by simp; omega) _
  have hn := num_size 8 u (by omega) hu
  clear h ht
  go_enter Tryd.func10, Tryd.ntmps10
  go_wp2_with fail
  refine (hS0.byte 45 45 e45 (by omega)).mono ?_
  rintro e W1 ⟨rfl, hS1, hb1x⟩
  have p1 := hS1.cell1 1
  have q1 := hS1.cell2 1
  go_wp2_with fail
  refine (hS1.byte 48 48 e48 (by first | omega | (simp; omega))).mono ?_
  rintro e W2 ⟨rfl, hS2, hb2x⟩
  have p2 := hS2.cell1 1
  have q2 := hS2.cell2 1
  go_wp2_with fail
  refine (hS2.fmt8 u hu).mono ?_
  rintro e W3 ⟨rfl, hS3, hb3x⟩
  have p3 := hS3.cell1 1
  have q3 := hS3.cell2 1
  go_wp2_with fail
  refine (hS3.str ⟨(num 8 u).toArray⟩ (by first | omega | (simp; omega)) hn).mono ?_
  rintro e W4 ⟨rfl, hS4, hb4x⟩
  go_wp2
  go_end0
  exact ⟨rfl, hS4.1, HB0.out.trans (hb1x.trans (hb2x.trans (hb3x.trans hb4x)))⟩

set_option maxHeartbeats 800000 in
theorem wi_neg_16 (B b : Nat) (l : List UInt8) (u : Nat) (sg : Int) (w : World) (hu : u < 18446744073709551616) (hl : l.length ≤ 100) 
    (h : Lib.IsBuilderF 33 5 B b (Lib.byteCells l) w) (hBw : B ≤ w.heap.size) (hB : 2 < B) (ht : Tabs w) (hb : b < w.heap.size) :
    Calls Tryd.prog 10 #[.pointer (some ⟨b, 0, .none⟩), .agg #[.bool true, .int .u64 u], .agg #[.int .u8 sg, .int .u8 3]] w fun e w' =>
      e = .returned (.tuple #[]) ∧ Lib.IsBuilderF 33 5 B b (Lib.byteCells (l ++ [45] ++ [48, 120] ++ num 16 u)) w' ∧ Below B w w' := by
  have hS0 := St.start h hBw hB ht hb #[.bool true, .int .u64 u] #[.int .u8 sg, .int .u8 3]
  have HB0 : Hid (Below B w ((w.alloc (.cells #[.bool true, .int .u64 u] 40)).alloc (.cells #[.int .u8 sg, .int .u8 3] 42))) := ((Below.refl B w).alloc hBw _).alloc (by simp; omega) _
  have hn := num_size 16 u (by omega) hu
  clear h ht
  go_enter Tryd.func10, Tryd.ntmps10
  go_wp2_with fail
  refine (hS0.byte 45 45 e45 (by omega)).mono ?_
  rintro e W1 ⟨rfl, hS1, hb1x⟩
  have p1 := hS1.cell1 1
  have q1 := hS1.cell2 1
  go_wp2_with fail
  refine (hS1.str ⟨#[48, 120]⟩ (by first | omega | (simp; omega)) size_0x).mono ?_
  rintro e W2 ⟨rfl, hS2, hb2x⟩
  have p2 := hS2.cell1 1
  have q2 := hS2.cell2 1
  go_wp2_with fail
  refine (hS2.fmt16 u hu).mono ?_
  rintro e W3 ⟨rfl, hS3, hb3x⟩
  have p3 := hS3.cell1 1
  have q3 := hS3.cell2 1
  go_wp2_with fail
  refine (hS3.str ⟨(num 16 u).toArray⟩ (by first | omega | (simp; omega)) hn).mono ?_
  rintro e W4 ⟨rfl, hS4, hb4x⟩
  go_wp2
  go_end0
  exact ⟨rfl, hS4.1, HB0.out.trans (hb1x.trans (hb2x.trans (hb3x.trans hb4x)))⟩

set_option maxHeartbeats 800000 in
theorem wi_neg_10 (B b : Nat) (l : List UInt8) (u : Nat) (sg : Int) (bs : Int) (w : World) (hu : u < 18446744073709551616) (hl : l.length ≤ 100) (hb1 : (bs == 1) = false) (hb3 : (bs == 3) = false) 
    (h : Lib.IsBuilderF 33 5 B b (Lib.byteCells l) w) (hBw : B ≤ w.heap.size) (hB : 2 < B) (ht : Tabs w) (hb : b < w.heap.size) :
    Calls Tryd.prog 10 #[.pointer (some ⟨b, 0, .none⟩), .agg #[.bool true, .int .u64 u], .agg #[.int .u8 sg, .int .u8 bs]] w fun e w' =>
      e = .returned (.tuple #[]) ∧ Lib.IsBuilderF 33 5 B b (Lib.byteCells (l ++ [45] ++ num 10 u)) w' ∧ Below B w w' := by
  have hS0 := St.start h hBw hB ht hb #[.bool true, .int .u64 u] #[.int .u8 sg, .int .u8 bs]
  have HB0 : Hid (Below B w ((w.alloc (.cells #[.bool true, .int .u64 u] 40)).alloc (.cells #[.int .u8 sg, .int .u8 bs] 42))) := ((Below.refl B w).alloc hBw _).alloc (by simp; omega) _
  have hn := num_size 10 u (by omega) hu
  clear h ht
  go_enter Tryd.func10, Tryd.ntmps10
  go_wp2_with fail
  refine (hS0.byte 45 45 e45 (by omega)).mono ?_
  rintro e W1 ⟨rfl, hS1, hb1x⟩
  have p1 := hS1.cell1 1
  have q1 := hS1.cell2 1
  go_wp2_with fail
  refine (hS1.fmt10 u hu).mono ?_
  rintro e W2 ⟨rfl, hS2, hb2x⟩
  have p2 := hS2.cell1 1
  have q2 := hS2.cell2 1
  go_wp2_with fail
  refine (hS2.str ⟨(num 10 u).toArray⟩ (by first | omega | (simp; omega)) hn).mono ?_
  rintro e W3 ⟨rfl, hS3, hb3x⟩
  go_wp2
  go_end0
  exact ⟨rfl, hS3.1, HB0.out.trans (hb1x.trans (hb2x.trans hb3x))⟩

set_option maxHeartbeats 800000 in
theorem wi_plus_8 (B b : Nat) (l : List UInt8) (u : Nat) (w : World) (hu : u < 18446744073709551616) (hl : l.length ≤ 100) 
    (h : Lib.IsBuilderF 33 5 B b (Lib.byteCells l) w) (hBw : B ≤ w.heap.size) (hB : 2 < B) (ht : Tabs w) (hb : b < w.heap.size) :
    Calls Tryd.prog 10 #[.pointer (some ⟨b, 0, .none⟩), .agg #[.bool false, .int .u64 u], .agg #[.int .u8 1, .int .u8 1]] w fun e w' =>
      e = .returned (.tuple #[]) ∧ Lib.IsBuilderF 33 5 B b (Lib.byteCells (l ++ [43] ++ [48] ++ num 8 u)) w' ∧ Below B w w' := by
  have hS0 := St.start h hBw hB ht hb #[.bool false, .int .u64 u] #[.int .u8 1, .int .u8 1]
  have HB0 : Hid (Below B w ((w.alloc (.cells #[.bool false, .int .u64 u] 40)).alloc (.cells #[.int .u8 1, .int .u8 1] 42))) := ((Below.refl B w).alloc hBw _).alloc (by simp; omega) _
  have hn := num_size 8 u (by omega) hu
  clear h ht
  go_enter Tryd.func10, Tryd.ntmps10
  go_wp2_with fail
  refine (hS0.byte 43 43 e43 (by omega)).mono ?_
  rintro e W1 ⟨rfl, hS1, hb1x⟩
  have p1 := hS1.cell1 1
  have q1 := hS1.cell2 1
  go_wp2_with fail
  refine (hS1.byte 48 48 e48 (by first | omega | (simp; omega))).mono ?_
  rintro e W2 ⟨rfl, hS2, hb2x⟩
  have p2 := hS2.cell1 1
  have q2 := hS2.cell2 1
  go_wp2_with fail
  refine (hS2.fmt8 u hu).mono ?_
  rintro e W3 ⟨rfl, hS3, hb3x⟩
  have p3 := hS3.cell1 1
  have q3 := hS3.cell2 1
  go_wp2_with fail
  refine (hS3.str ⟨(num 8 u).toArray⟩ (by first | omega | (simp; omega)) hn).mono ?_
  rintro e W4 ⟨rfl, hS4, hb4x⟩
  go_wp2
  go_end0
  exact ⟨rfl, hS4.1, HB0.out.trans (hb1x.trans (hb2x.trans (hb3x.trans hb4x)))⟩

set_option maxHeartbeats 800000 in
theorem wi_plus_16 (B b : Nat) (l : List UInt8) (u : Nat) (w : World) (hu : u < 18446744073709551616) (hl : l.length ≤ 100) 
    (h : Lib.IsBuilderF 33 5 B b (Lib.byteCells l) w) (hBw : B ≤ w.heap.size) (hB : 2 < B) (ht : Tabs w) (hb : b < w.heap.size) :
    Calls Tryd.prog 10 #[.pointer (some ⟨b, 0, .none⟩), .agg #[.bool false, .int .u64 u], .agg #[.int .u8 1, .int .u8 3]] w fun e w' =>
      e = .returned (.tuple #[]) ∧ Lib.IsBuilderF 33 5 B b (Lib.byteCells (l ++ [43] ++ [48, 120] ++ num 16 u)) w' ∧ Below B w w' := by
  have hS0 := St.start h hBw hB ht hb #[.bool false, .int .u64 u] #[.int .u8 1, .int .u8 3]
  have HB0 : Hid (Below B w ((w.alloc (.cells #[.bool false, .int .u64 u] 40)).alloc (.cells #[.int .u8 1, .int .u8 3] 42))) := ((Below.refl B w).alloc hBw _).alloc (by simp; omega) _
  have hn := num_size 16 u (by omega) hu
  clear h ht
  go_enter Tryd.func10, Tryd.ntmps10
  go_wp2_with fail
  refine (hS0.byte 43 43 e43 (by omega)).mono ?_
  rintro e W1 ⟨rfl, hS1, hb1x⟩
  have p1 := hS1.cell1 1
  have q1 := hS1.cell2 1
  go_wp2_with fail
  refine (hS1.str ⟨#[48, 120]⟩ (by first | omega | (simp; omega)) size_0x).mono ?_
  rintro e W2 ⟨rfl, hS2, hb2x⟩
  have p2 := hS2.cell1 1
  have q2 := hS2.cell2 1
  go_wp2_with fail
  refine (hS2.fmt16 u hu).mono ?_
  rintro e W3 ⟨rfl, hS3, hb3x⟩
  have p3 := hS3.cell1 1
  have q3 := hS3.cell2 1
  go_wp2_with fail
  refine (hS3.str ⟨(num 16 u).toArray⟩ (by first | omega | (simp; omega)) hn).mono ?_
  rintro e W4 ⟨rfl, hS4, hb4x⟩
  go_wp2
  go_end0
  exact ⟨rfl, hS4.1, HB0.out.trans (hb1x.trans (hb2x.trans (hb3x.trans hb4x)))⟩

set_option maxHeartbeats 800000 in
theorem wi_plus_10 (B b : Nat) (l : List UInt8) (u : Nat) (bs : Int) (w : World) (hu : u < 18446744073709551616) (hl : l.length ≤ 100) (hb1 : (bs == 1) = false) (hb3 : (bs == 3) = false) 
    (h : Lib.IsBuilderF 33 5 B b (Lib.byteCells l) w) (hBw : B ≤ w.heap.size) (hB : 2 < B) (ht : Tabs w) (hb : b < w.heap.size) :
    Calls Tryd.prog 10 #[.pointer (some ⟨b, 0, .none⟩), .agg #[.bool false, .int .u64 u], .agg #[.int .u8 1, .int .u8 bs]] w fun e w' =>
      e = .returned (.tuple #[]) ∧ Lib.IsBuilderF 33 5 B b (Lib.byteCells (l ++ [43] ++ num 10 u)) w' ∧ Below B w w' := by
  have hS0 := St.start h hBw hB ht hb #[.bool false, .int .u64 u] #[.int .u8 1, .int .u8 bs]
  have HB0 : Hid (Below B w ((w.alloc (.cells #[.bool false, .int .u64 u] 40)).alloc (.cells #[.int .u8 1, .int .u8 bs] 42))) := ((Below.refl B w).alloc hBw _).alloc (by simp; omega) _
  have hn := num_size 10 u (by omega) hu
  clear h ht
  go_enter Tryd.func10, Tryd.ntmps10
  go_wp2_with fail
  refine (hS0.byte 43 43 e43 (by omega)).mono ?_
  rintro e W1 ⟨rfl, hS1, hb1x⟩
  have p1 := hS1.cell1 1
  have q1 := hS1.cell2 1
  go_wp2_with fail
  refine (hS1.fmt10 u hu).mono ?_
  rintro e W2 ⟨rfl, hS2, hb2x⟩
  have p2 := hS2.cell1 1
  have q2 := hS2.cell2 1
  go_wp2_with fail
  refine (hS2.str ⟨(num 10 u).toArray⟩ (by first | omega | (simp; omega)) hn).mono ?_
  rintro e W3 ⟨rfl, hS3, hb3x⟩
  go_wp2
  go_end0
  exact ⟨rfl, hS3.1, HB0.out.trans (hb1x.trans (hb2x.trans hb3x))⟩

set_option maxHeartbeats 800000 in
theorem wi_bare_8 (B b : Nat) (l : List UInt8) (u : Nat) (sg : Int) (w : World) (hu : u < 18446744073709551616) (hl : l.length ≤ 100) (hsg : (sg == 1) = false) 
    (h : Lib.IsBuilderF 33 5 B b (Lib.byteCells l) w) (hBw : B ≤ w.heap.size) (hB : 2 < B) (ht : Tabs w) (hb : b < w.heap.size) :
    Calls Tryd.prog 10 #[.pointer (some ⟨b, 0, .none⟩), .agg #[.bool false, .int .u64 u], .agg #[.int .u8 sg, .int .u8 1]] w fun e w' =>
      e = .returned (.tuple #[]) ∧ Lib.IsBuilderF 33 5 B b (Lib.byteCells (l ++ [48] ++ num 8 u)) w' ∧ Below B w w' := by
  have hS0 := St.start h hBw hB ht hb #[.bool false, .int .u64 u] #[.int .u8 sg, .int .u8 1]
  have HB0 : Hid (Below B w ((w.alloc (.cells #[.bool false, .int .u64 u] 40)).alloc (.cells #[.int .u8 sg, .int .u8 1] 42))) := ((Below.refl B w).alloc hBw _).alloc (by simp; omega) _
  have hn := num_size 8 u (by omega) hu
  clear h ht
  go_enter Tryd.func10, Tryd.ntmps10
  go_wp2_with fail
  refine (hS0.byte 48 48 e48 (by omega)).mono ?_
  rintro e W1 ⟨rfl, hS1, hb1x⟩
  have p1 := hS1.cell1 1
  have q1 := hS1.cell2 1
  go_wp2_with fail
  refine (hS1.fmt8 u hu).mono ?_
  rintro e W2 ⟨rfl, hS2, hb2x⟩
  have p2 := hS2.cell1 1
  have q2 := hS2.cell2 1
  go_wp2_with fail
  refine (hS2.str ⟨(num 8 u).toArray⟩ (by first | omega | (simp; omega)) hn).mono ?_
  rintro e W3 ⟨rfl, hS3, hb3x⟩
  go_wp2
  go_end0
  exact ⟨rfl, hS3.1, HB0.out.trans (hb1x.trans (hb2x.trans hb3x))⟩

set_option maxHeartbeats 800000 in
theorem wi_bare_16 (B b : Nat) (l : List UInt8) (u : Nat) (sg : Int) (w : World) (hu : u < 18446744073709551616) (hl : l.length ≤ 100) (hsg : (sg == 1) = false) 
    (h : Lib.IsBuilderF 33 5 B b (Lib.byteCells l) w) (hBw : B ≤ w.heap.size) (hB : 2 < B) (ht : Tabs w) (hb : b < w.heap.size) :
    Calls Tryd.prog 10 #[.pointer (some ⟨b, 0, .none⟩), .agg #[.bool false, .int .u64 u], .agg #[.int .u8 sg, .int .u8 3]] w fun e w' =>
      e = .returned (.tuple #[]) ∧ Lib.IsBuilderF 33 5 B b (Lib.byteCells (l ++ [48, 120] ++ num 16 u)) w' ∧ Below B w w' := by
  have hS0 := St.start h hBw hB ht hb #[.bool false, .int .u64 u] #[.int .u8 sg, .int .u8 3]
  have HB0 : Hid (Below B w ((w.alloc (.cells #[.bool false, .int .u64 u] 40)).alloc (.cells #[.int .u8 sg, .int .u8 3] 42))) := ((Below.refl B w).alloc hBw _).alloc (by simp; omega) _
  have hn := num_size 16 u (by omega) hu
  clear h ht
  go_enter Tryd.func10, Tryd.ntmps10
  go_wp2_with fail
  refine (hS0.str ⟨#[48, 120]⟩ (by omega) size_0x).mono ?_
  rintro e W1 ⟨rfl, hS1, hb1x⟩
  have p1 := hS1.cell1 1
  have q1 := hS1.cell2 1
  go_wp2_with fail
  refine (hS1.fmt16 u hu).mono ?_
  rintro e W2 ⟨rfl, hS2, hb2x⟩
  have p2 := hS2.cell1 1
  have q2 := hS2.cell2 1
  go_wp2_with fail
  refine (hS2.str ⟨(num 16 u).toArray⟩ (by first | omega | (simp; omega)) hn).mono ?_
  rintro e W3 ⟨rfl, hS3, hb3x⟩
  go_wp2
  go_end0
  exact ⟨rfl, hS3.1, HB0.out.trans (hb1x.trans (hb2x.trans hb3x))⟩

set_option maxHeartbeats 800000 in
theorem wi_bare_10 (B b : Nat) (l : List UInt8) (u : Nat) (sg : Int) (bs : Int) (w : World) (hu : u < 18446744073709551616) (hl : l.length ≤ 100) (hsg : (sg == 1) = false) (hb1 : (bs == 1) = false) (hb3 : (bs == 3) = false) 
    (h : Lib.IsBuilderF 33 5 B b (Lib.byteCells l) w) (hBw : B ≤ w.heap.size) (hB : 2 < B) (ht : Tabs w) (hb : b < w.heap.size) :
    Calls Tryd.prog 10 #[.pointer (some ⟨b, 0, .none⟩), .agg #[.bool false, .int .u64 u], .agg #[.int .u8 sg, .int .u8 bs]] w fun e w' =>
      e = .returned (.tuple #[]) ∧ Lib.IsBuilderF 33 5 B b (Lib.byteCells (l ++ num 10 u)) w' ∧ Below B w w' := by
  have hS0 := St.start h hBw hB ht hb #[.bool false, .int .u64 u] #[.int .u8 sg, .int .u8 bs]
  have HB0 : Hid (Below B w ((w.alloc (.cells #[.bool false, .int .u64 u] 40)).alloc (.cells #[.int .u8 sg, .int .u8 bs] 42))) := ((Below.refl B w).alloc hBw _).alloc (by simp; omega) _
  have hn := num_size 10 u (by omega) hu
  clear h ht
  go_enter Tryd.func10, Tryd.ntmps10
  go_wp2_with fail
  refine (hS0.fmt10 u hu).mono ?_
  rintro e W1 ⟨rfl, hS1, hb1x⟩
  have p1 := hS1.cell1 1
  have q1 := hS1.cell2 1
  go_wp2_with fail
  refine (hS1.str ⟨(num 10 u).toArray⟩ (by first | omega | (simp; omega)) hn).mono ?_
  rintro e W2 ⟨rfl, hS2, hb2x⟩
  go_wp2
  go_end0
  exact ⟨rfl, hS2.1, HB0.out.trans (hb1x.trans hb2x)⟩
end Go.Proofs.Qxb6603072aDoor
