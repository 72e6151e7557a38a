/-
  formatted, walked: one theorem a way (written by a small program of ours).
-/
import Derived.Test.Qxb6603079aDoorState
namespace Go.Proofs.Qxb6603079aDoor
open Go.RowKit Plain
set_option linter.unusedVariables false      -- a way need not use every bound by its name

theorem size_0p : (⟨#[48, 46]⟩ : ByteArray).size ≤ 1000000 := by decide

set_option maxHeartbeats 1600000 in
theorem fm_full_true (dg : ByteArray) (c : Nat) (w : World) (h1 : 1 ≤ dg.size) (h2 : dg.size ≤ 100000) (hpt : dg.size + c ≤ 100000) (ht : Tab w) :
    Calls Tryd.prog 13 #[.bool true, .string dg, .int .i64 (c : Int)] w fun e w' => e = .returned (.string ⟨([] ++ [45] ++ (dg).data.toList ++ ((⟨(List.replicate c 48).toArray⟩ : ByteArray)).data.toList).toArray⟩) ∧ Below w.heap.size w w' := by
  have hS0 := St.start ht
  have HB0 : Hid (Below w.heap.size w (w.alloc (.cells #[.pointer .none, .slice .none 0 0] 34))) := below_alloc w _
  have hr : (⟨(List.replicate c 48).toArray⟩ : ByteArray).size ≤ 1000000 := by rw [text_size, List.length_replicate]; omega
  clear ht
  go_enter Tryd.func13, Tryd.ntmps13
  go_wp2_with fail
  refine (hS0.byte 45 45 e45 (by first | omega | (simp; done) | (simp; omega))).mono ?_
  rintro e W1 ⟨rfl, hS1, hb1x⟩
  go_wp2_with fail
  refine (hS1.str dg (by first | omega | (simp; done) | (simp; omega)) (by omega)).mono ?_
  rintro e W2 ⟨rfl, hS2, hb2x⟩
  go_wp2_with fail
  refine (hS2.rep c (by omega)).mono ?_
  rintro e W3 ⟨rfl, hS3, hb3x⟩
  go_wp2_with fail
  refine (hS3.str ⟨(List.replicate c 48).toArray⟩ (by first | omega | (simp; done) | (simp; omega)) hr).mono ?_
  rintro e W4 ⟨rfl, hS4, hb4x⟩
  go_wp2_with fail
  refine (hS4.all).mono ?_
  rintro e WZ ⟨s, HS, rfl, hbz⟩
  go_wp2
  go_ret
  exact ⟨ret_str HS.out, HB0.out.trans (hb1x.trans (hb2x.trans (hb3x.trans (hb4x.trans hbz))))⟩

set_option maxHeartbeats 1600000 in
theorem fm_full_false (dg : ByteArray) (c : Nat) (w : World) (h1 : 1 ≤ dg.size) (h2 : dg.size ≤ 100000) (hpt : dg.size + c ≤ 100000) (ht : Tab w) :
    Calls Tryd.prog 13 #[.bool false, .string dg, .int .i64 (c : Int)] w fun e w' => e = .returned (.string ⟨([] ++ (dg).data.toList ++ ((⟨(List.replicate c 48).toArray⟩ : ByteArray)).data.toList).toArray⟩) ∧ Below w.heap.size w w' := by
  have hS0 := St.start ht
  have HB0 : Hid (Below w.heap.size w (w.alloc (.cells #[.pointer .none, .slice .none 0 0] 34))) := below_alloc w _
  have hr : (⟨(List.replicate c 48).toArray⟩ : ByteArray).size ≤ 1000000 := by rw [text_size, List.length_replicate]; omega
  clear ht
  go_enter Tryd.func13, Tryd.ntmps13
  go_wp2_with fail
  refine (hS0.str dg (by first | omega | (simp; done) | (simp; omega)) (by omega)).mono ?_
  rintro e W1 ⟨rfl, hS1, hb1x⟩
  go_wp2_with fail
  refine (hS1.rep c (by omega)).mono ?_
  rintro e W2 ⟨rfl, hS2, hb2x⟩
  go_wp2_with fail
  refine (hS2.str ⟨(List.replicate c 48).toArray⟩ (by first | omega | (simp; done) | (simp; omega)) hr).mono ?_
  rintro e W3 ⟨rfl, hS3, hb3x⟩
  go_wp2_with fail
  refine (hS3.all).mono ?_
  rintro e WZ ⟨s, HS, rfl, hbz⟩
  go_wp2
  go_ret
  exact ⟨ret_str HS.out, HB0.out.trans (hb1x.trans (hb2x.trans (hb3x.trans hbz)))⟩

set_option maxHeartbeats 1600000 in
theorem fm_point_true (dg : ByteArray) (exp : Int) (p : Nat) (w : World) (h1 : 1 ≤ dg.size) (h2 : dg.size ≤ 100000) (hexp : exp < 0) (hp : (dg.size : Int) + exp = (p : Int)) (hp0 : 0 < p) (hp1 : p ≤ dg.size) (ht : Tab w) :
    Calls Tryd.prog 13 #[.bool true, .string dg, .int .i64 exp] w fun e w' => e = .returned (.string ⟨([] ++ [45] ++ ((dg.extract 0 p)).data.toList ++ [46] ++ ((dg.extract p dg.size)).data.toList).toArray⟩) ∧ Below w.heap.size w w' := by
  have hS0 := St.start ht
  have HB0 : Hid (Below w.heap.size w (w.alloc (.cells #[.pointer .none, .slice .none 0 0] 34))) := below_alloc w _
  have hx1 := extract_len dg 0 p
  have hx2 := extract_len dg p dg.size
  clear ht
  go_enter Tryd.func13, Tryd.ntmps13
  go_wp2_with fail
  refine (hS0.byte 45 45 e45 (by first | omega | (simp; done) | (simp; omega))).mono ?_
  rintro e W1 ⟨rfl, hS1, hb1x⟩
  go_wp2_with fail
  refine (hS1.str (dg.extract 0 p) (by first | omega | (simp; done) | (simp; omega)) (by omega)).mono ?_
  rintro e W2 ⟨rfl, hS2, hb2x⟩
  go_wp2_with fail
  refine (hS2.byte 46 46 e46 (by first | omega | (simp; done) | (simp; omega))).mono ?_
  rintro e W3 ⟨rfl, hS3, hb3x⟩
  go_wp2_with fail
  refine (hS3.str (dg.extract p dg.size) (by first | omega | (simp; done) | (simp; omega)) (by omega)).mono ?_
  rintro e W4 ⟨rfl, hS4, hb4x⟩
  go_wp2_with fail
  refine (hS4.all).mono ?_
  rintro e WZ ⟨s, HS, rfl, hbz⟩
  go_wp2
  go_ret
  exact ⟨ret_str HS.out, HB0.out.trans (hb1x.trans (hb2x.trans (hb3x.trans (hb4x.trans hbz))))⟩

set_option maxHeartbeats 1600000 in
theorem fm_point_false (dg : ByteArray) (exp : Int) (p : Nat) (w : World) (h1 : 1 ≤ dg.size) (h2 : dg.size ≤ 100000) (hexp : exp < 0) (hp : (dg.size : Int) + exp = (p : Int)) (hp0 : 0 < p) (hp1 : p ≤ dg.size) (ht : Tab w) :
    Calls Tryd.prog 13 #[.bool false, .string dg, .int .i64 exp] w fun e w' => e = .returned (.string ⟨([] ++ ((dg.extract 0 p)).data.toList ++ [46] ++ ((dg.extract p dg.size)).data.toList).toArray⟩) ∧ Below w.heap.size w w' := by
  have hS0 := St.start ht
  have HB0 : Hid (Below w.heap.size w (w.alloc (.cells #[.pointer .none, .slice .none 0 0] 34))) := below_alloc w _
  have hx1 := extract_len dg 0 p
  have hx2 := extract_len dg p dg.size
  clear ht
  go_enter Tryd.func13, Tryd.ntmps13
  go_wp2_with fail
  refine (hS0.str (dg.extract 0 p) (by first | omega | (simp; done) | (simp; omega)) (by omega)).mono ?_
  rintro e W1 ⟨rfl, hS1, hb1x⟩
  go_wp2_with fail
  refine (hS1.byte 46 46 e46 (by first | omega | (simp; done) | (simp; omega))).mono ?_
  rintro e W2 ⟨rfl, hS2, hb2x⟩
  go_wp2_with fail
  refine (hS2.str (dg.extract p dg.size) (by first | omega | (simp; done) | (simp; omega)) (by omega)).mono ?_
  rintro e W3 ⟨rfl, hS3, hb3x⟩
  go_wp2_with fail
  refine (hS3.all).mono ?_
  rintro e WZ ⟨s, HS, rfl, hbz⟩
  go_wp2
  go_ret
  exact ⟨ret_str HS.out, HB0.out.trans (hb1x.trans (hb2x.trans (hb3x.trans hbz)))⟩

set_option maxHeartbeats 1600000 in
theorem fm_small_true (dg : ByteArray) (exp : Int) (q : Nat) (w : World) (h1 : 1 ≤ dg.size) (h2 : dg.size ≤ 100000) (hexp : exp < 0) (hq : (dg.size : Int) + exp = -(q : Int)) (hsm : 1 - exp ≤ 100000) (ht : Tab w) :
    Calls Tryd.prog 13 #[.bool true, .string dg, .int .i64 exp] w fun e w' => e = .returned (.string ⟨([] ++ [45] ++ ((⟨#[48, 46]⟩ : ByteArray)).data.toList ++ ((⟨(List.replicate q 48).toArray⟩ : ByteArray)).data.toList ++ (dg).data.toList).toArray⟩) ∧ Below w.heap.size w w' := by
  have hS0 := St.start ht
  have HB0 : Hid (Below w.heap.size w (w.alloc (.cells #[.pointer .none, .slice .none 0 0] 34))) := below_alloc w _
  have hr : (⟨(List.replicate q 48).toArray⟩ : ByteArray).size ≤ 1000000 := by rw [text_size, List.length_replicate]; omega
  clear ht
  go_enter Tryd.func13, Tryd.ntmps13
  go_wp2_with fail
  refine (hS0.byte 45 45 e45 (by first | omega | (simp; done) | (simp; omega))).mono ?_
  rintro e W1 ⟨rfl, hS1, hb1x⟩
  go_wp2_with fail
  refine (hS1.str ⟨#[48, 46]⟩ (by first | omega | (simp; done) | (simp; omega)) size_0p).mono ?_
  rintro e W2 ⟨rfl, hS2, hb2x⟩
  go_wp2_with fail
  refine (hS2.rep q (by omega)).mono ?_
  rintro e W3 ⟨rfl, hS3, hb3x⟩
  go_wp2_with fail
  refine (hS3.str ⟨(List.replicate q 48).toArray⟩ (by first | omega | (simp; done) | (simp; omega)) hr).mono ?_
  rintro e W4 ⟨rfl, hS4, hb4x⟩
  go_wp2_with fail
  refine (hS4.str dg (by first | omega | (simp; done) | (simp; omega)) (by omega)).mono ?_
  rintro e W5 ⟨rfl, hS5, hb5x⟩
  go_wp2_with fail
  refine (hS5.all).mono ?_
  rintro e WZ ⟨s, HS, rfl, hbz⟩
  go_wp2
  go_ret
  exact ⟨ret_str HS.out, HB0.out.trans (hb1x.trans (hb2x.trans (hb3x.trans (hb4x.trans (hb5x.trans hbz)))))⟩

set_option maxHeartbeats 1600000 in
theorem fm_small_false (dg : ByteArray) (exp : Int) (q : Nat) (w : World) (h1 : 1 ≤ dg.size) (h2 : dg.size ≤ 100000) (hexp : exp < 0) (hq : (dg.size : Int) + exp = -(q : Int)) (hsm : 1 - exp ≤ 100000) (ht : Tab w) :
    Calls Tryd.prog 13 #[.bool false, .string dg, .int .i64 exp] w fun e w' => e = .returned (.string ⟨([] ++ ((⟨#[48, 46]⟩ : ByteArray)).data.toList ++ ((⟨(List.replicate q 48).toArray⟩ : ByteArray)).data.toList ++ (dg).data.toList).toArray⟩) ∧ Below w.heap.size w w' := by
  have hS0 := St.start ht
  have HB0 : Hid (Below w.heap.size w (w.alloc (.cells #[.pointer .none, .slice .none 0 0] 34))) := below_alloc w _
  have hr : (⟨(List.replicate q 48).toArray⟩ : ByteArray).size ≤ 1000000 := by rw [text_size, List.length_replicate]; omega
  clear ht
  go_enter Tryd.func13, Tryd.ntmps13
  go_wp2_with fail
  refine (hS0.str ⟨#[48, 46]⟩ (by first | omega | (simp; done) | (simp; omega)) size_0p).mono ?_
  rintro e W1 ⟨rfl, hS1, hb1x⟩
  go_wp2_with fail
  refine (hS1.rep q (by omega)).mono ?_
  rintro e W2 ⟨rfl, hS2, hb2x⟩
  go_wp2_with fail
  refine (hS2.str ⟨(List.replicate q 48).toArray⟩ (by first | omega | (simp; done) | (simp; omega)) hr).mono ?_
  rintro e W3 ⟨rfl, hS3, hb3x⟩
  go_wp2_with fail
  refine (hS3.str dg (by first | omega | (simp; done) | (simp; omega)) (by omega)).mono ?_
  rintro e W4 ⟨rfl, hS4, hb4x⟩
  go_wp2_with fail
  refine (hS4.all).mono ?_
  rintro e WZ ⟨s, HS, rfl, hbz⟩
  go_wp2
  go_ret
  exact ⟨ret_str HS.out, HB0.out.trans (hb1x.trans (hb2x.trans (hb3x.trans (hb4x.trans hbz))))⟩

set_option maxHeartbeats 1600000 in
theorem fm_pos_many_true (dg : ByteArray) (exp : Int) (w : World) (h1 : 1 ≤ dg.size) (h2 : dg.size ≤ 100000) (hx1 : exp ≤ 4611686018427387904) (hx2 : -4611686018427387904 ≤ exp) (hexp : 0 ≤ exp) (hpt : 100000 < (dg.size : Int) + exp) (hn : 1 < dg.size) (ht : Tab w) :
    Calls Tryd.prog 13 #[.bool true, .string dg, .int .i64 exp] w fun e w' => e = .returned (.string ⟨([] ++ [45] ++ ((dg.extract 0 1)).data.toList ++ [46] ++ ((dg.extract 1 dg.size)).data.toList ++ [101] ++ [43] ++ ((⟨(Lib.itoa ((dg.size : Int) + exp - 1)).toArray⟩ : ByteArray)).data.toList).toArray⟩) ∧ Below w.heap.size w w' := by
  have hS0 := St.start ht
  have HB0 : Hid (Below w.heap.size w (w.alloc (.cells #[.pointer .none, .slice .none 0 0] 34))) := below_alloc w _
  have hx3 := extract_len dg 0 1
  have hx4 := extract_len dg 1 dg.size
  have hr : (⟨(Lib.itoa ((dg.size : Int) + exp - 1)).toArray⟩ : ByteArray).size ≤ 1000000 := by rw [text_size]; have := itoa_len20 ((dg.size : Int) + exp - 1) (by omega) (by omega); omega
  clear ht
  go_enter Tryd.func13, Tryd.ntmps13
  go_wp2_with fail
  refine (hS0.byte 45 45 e45 (by first | omega | (simp; done) | (simp; omega))).mono ?_
  rintro e W1 ⟨rfl, hS1, hb1x⟩
  go_wp2_with fail
  refine (hS1.str (dg.extract 0 1) (by first | omega | (simp; done) | (simp; omega)) (by omega)).mono ?_
  rintro e W2 ⟨rfl, hS2, hb2x⟩
  go_wp2_with fail
  refine (hS2.byte 46 46 e46 (by first | omega | (simp; done) | (simp; omega))).mono ?_
  rintro e W3 ⟨rfl, hS3, hb3x⟩
  go_wp2_with fail
  refine (hS3.str (dg.extract 1 dg.size) (by first | omega | (simp; done) | (simp; omega)) (by omega)).mono ?_
  rintro e W4 ⟨rfl, hS4, hb4x⟩
  go_wp2_with fail
  refine (hS4.byte 101 101 e101 (by first | omega | (simp; done) | (simp; omega))).mono ?_
  rintro e W5 ⟨rfl, hS5, hb5x⟩
  go_wp2_with fail
  refine (hS5.byte 43 43 e43 (by first | omega | (simp; done) | (simp; omega))).mono ?_
  rintro e W6 ⟨rfl, hS6, hb6x⟩
  go_wp2_with fail
  refine (hS6.num ((dg.size : Int) + exp - 1) (by omega) (by omega)).mono ?_
  rintro e W7 ⟨rfl, hS7, hb7x⟩
  go_wp2_with fail
  refine (hS7.str ⟨(Lib.itoa ((dg.size : Int) + exp - 1)).toArray⟩ (by first | omega | (simp; done) | (simp; omega)) hr).mono ?_
  rintro e W8 ⟨rfl, hS8, hb8x⟩
  go_wp2_with fail
  refine (hS8.all).mono ?_
  rintro e WZ ⟨s, HS, rfl, hbz⟩
  go_wp2
  go_ret
  exact ⟨ret_str HS.out, HB0.out.trans (hb1x.trans (hb2x.trans (hb3x.trans (hb4x.trans (hb5x.trans (hb6x.trans (hb7x.trans (hb8x.trans hbz))))))))⟩

set_option maxHeartbeats 1600000 in
theorem fm_pos_many_false (dg : ByteArray) (exp : Int) (w : World) (h1 : 1 ≤ dg.size) (h2 : dg.size ≤ 100000) (hx1 : exp ≤ 4611686018427387904) (hx2 : -4611686018427387904 ≤ exp) (hexp : 0 ≤ exp) (hpt : 100000 < (dg.size : Int) + exp) (hn : 1 < dg.size) (ht : Tab w) :
    Calls Tryd.prog 13 #[.bool false, .string dg, .int .i64 exp] w fun e w' => e = .returned (.string ⟨([] ++ ((dg.extract 0 1)).data.toList ++ [46] ++ ((dg.extract 1 dg.size)).data.toList ++ [101] ++ [43] ++ ((⟨(Lib.itoa ((dg.size : Int) + exp - 1)).toArray⟩ : ByteArray)).data.toList).toArray⟩) ∧ Below w.heap.size w w' := by
  have hS0 := St.start ht
  have HB0 : Hid (Below w.heap.size w (w.alloc (.cells #[.pointer .none, .slice .none 0 0] 34))) := below_alloc w _
  have hx3 := extract_len dg 0 1
  have hx4 := extract_len dg 1 dg.size
  have hr : (⟨(Lib.itoa ((dg.size : Int) + exp - 1)).toArray⟩ : ByteArray).size ≤ 1000000 := by rw [text_size]; have := itoa_len20 ((dg.size : Int) + exp - 1) (by omega) (by omega); omega
  clear ht
  go_enter Tryd.func13, Tryd.ntmps13
  go_wp2_with fail
  refine (hS0.str (dg.extract 0 1) (by first | omega | (simp; done) | (simp; omega)) (by omega)).mono ?_
  rintro e W1 ⟨rfl, hS1, hb1x⟩
  go_wp2_with fail
  refine (hS1.byte 46 46 e46 (by first | omega | (simp; done) | (simp; omega))).mono ?_
  rintro e W2 ⟨rfl, hS2, hb2x⟩
  go_wp2_with fail
  refine (hS2.str (dg.extract 1 dg.size) (by first | omega | (simp; done) | (simp; omega)) (by omega)).mono ?_
  rintro e W3 ⟨rfl, hS3, hb3x⟩
  go_wp2_with fail
  refine (hS3.byte 101 101 e101 (by first | omega | (simp; done) | (simp; omega))).mono ?_
  rintro e W4 ⟨rfl, hS4, hb4x⟩
  go_wp2_with fail
  refine (hS4.byte 43 43 e43 (by first | omega | (simp; done) | (simp; omega))).mono ?_
  rintro e W5 ⟨rfl, hS5, hb5x⟩
  go_wp2_with fail
  refine (hS5.num ((dg.size : Int) + exp - 1) (by omega) (by omega)).mono ?_
  rintro e W6 ⟨rfl, hS6, hb6x⟩
  go_wp2_with fail
  refine (hS6.str ⟨(Lib.itoa ((dg.size : Int) + exp - 1)).toArray⟩ (by first | omega | (simp; done) | (simp; omega)) hr).mono ?_
  rintro e W7 ⟨rfl, hS7, hb7x⟩
  go_wp2_with fail
  refine (hS7.all).mono ?_
  rintro e WZ ⟨s, HS, rfl, hbz⟩
  go_wp2
  go_ret
  exact ⟨ret_str HS.out, HB0.out.trans (hb1x.trans (hb2x.trans (hb3x.trans (hb4x.trans (hb5x.trans (hb6x.trans (hb7x.trans hbz)))))))⟩

set_option maxHeartbeats 1600000 in
theorem fm_pos_one_true (dg : ByteArray) (exp : Int) (w : World) (h1 : 1 ≤ dg.size) (h2 : dg.size ≤ 100000) (hx1 : exp ≤ 4611686018427387904) (hx2 : -4611686018427387904 ≤ exp) (hexp : 0 ≤ exp) (hpt : 100000 < (dg.size : Int) + exp) (hn : ¬ 1 < dg.size) (ht : Tab w) :
    Calls Tryd.prog 13 #[.bool true, .string dg, .int .i64 exp] w fun e w' => e = .returned (.string ⟨([] ++ [45] ++ ((dg.extract 0 1)).data.toList ++ [101] ++ [43] ++ ((⟨(Lib.itoa ((dg.size : Int) + exp - 1)).toArray⟩ : ByteArray)).data.toList).toArray⟩) ∧ Below w.heap.size w w' := by
  have hS0 := St.start ht
  have HB0 : Hid (Below w.heap.size w (w.alloc (.cells #[.pointer .none, .slice .none 0 0] 34))) := below_alloc w _
  have hx3 := extract_len dg 0 1
  have hx4 := extract_len dg 1 dg.size
  have hr : (⟨(Lib.itoa ((dg.size : Int) + exp - 1)).toArray⟩ : ByteArray).size ≤ 1000000 := by rw [text_size]; have := itoa_len20 ((dg.size : Int) + exp - 1) (by omega) (by omega); omega
  clear ht
  go_enter Tryd.func13, Tryd.ntmps13
  go_wp2_with fail
  refine (hS0.byte 45 45 e45 (by first | omega | (simp; done) | (simp; omega))).mono ?_
  rintro e W1 ⟨rfl, hS1, hb1x⟩
  go_wp2_with fail
  refine (hS1.str (dg.extract 0 1) (by first | omega | (simp; done) | (simp; omega)) (by omega)).mono ?_
  rintro e W2 ⟨rfl, hS2, hb2x⟩
  go_wp2_with fail
  refine (hS2.byte 101 101 e101 (by first | omega | (simp; done) | (simp; omega))).mono ?_
  rintro e W3 ⟨rfl, hS3, hb3x⟩
  go_wp2_with fail
  refine (hS3.byte 43 43 e43 (by first | omega | (simp; done) | (simp; omega))).mono ?_
  rintro e W4 ⟨rfl, hS4, hb4x⟩
  go_wp2_with fail
  refine (hS4.num ((dg.size : Int) + exp - 1) (by omega) (by omega)).mono ?_
  rintro e W5 ⟨rfl, hS5, hb5x⟩
  go_wp2_with fail
  refine (hS5.str ⟨(Lib.itoa ((dg.size : Int) + exp - 1)).toArray⟩ (by first | omega | (simp; done) | (simp; omega)) hr).mono ?_
  rintro e W6 ⟨rfl, hS6, hb6x⟩
  go_wp2_with fail
  refine (hS6.all).mono ?_
  rintro e WZ ⟨s, HS, rfl, hbz⟩
  go_wp2
  go_ret
  exact ⟨ret_str HS.out, HB0.out.trans (hb1x.trans (hb2x.trans (hb3x.trans (hb4x.trans (hb5x.trans (hb6x.trans hbz))))))⟩

set_option maxHeartbeats 1600000 in
theorem fm_pos_one_false (dg : ByteArray) (exp : Int) (w : World) (h1 : 1 ≤ dg.size) (h2 : dg.size ≤ 100000) (hx1 : exp ≤ 4611686018427387904) (hx2 : -4611686018427387904 ≤ exp) (hexp : 0 ≤ exp) (hpt : 100000 < (dg.size : Int) + exp) (hn : ¬ 1 < dg.size) (ht : Tab w) :
    Calls Tryd.prog 13 #[.bool false, .string dg, .int .i64 exp] w fun e w' => e = .returned (.string ⟨([] ++ ((dg.extract 0 1)).data.toList ++ [101] ++ [43] ++ ((⟨(Lib.itoa ((dg.size : Int) + exp - 1)).toArray⟩ : ByteArray)).data.toList).toArray⟩) ∧ Below w.heap.size w w' := by
  have hS0 := St.start ht
  have HB0 : Hid (Below w.heap.size w (w.alloc (.cells #[.pointer .none, .slice .none 0 0] 34))) := below_alloc w _
  have hx3 := extract_len dg 0 1
  have hx4 := extract_len dg 1 dg.size
  have hr : (⟨(Lib.itoa ((dg.size : Int) + exp - 1)).toArray⟩ : ByteArray).size ≤ 1000000 := by rw [text_size]; have := itoa_len20 ((dg.size : Int) + exp - 1) (by omega) (by omega); omega
  clear ht
  go_enter Tryd.func13, Tryd.ntmps13
  go_wp2_with fail
  refine (hS0.str (dg.extract 0 1) (by first | omega | (simp; done) | (simp; omega)) (by omega)).mono ?_
  rintro e W1 ⟨rfl, hS1, hb1x⟩
  go_wp2_with fail
  refine (hS1.byte 101 101 e101 (by first | omega | (simp; done) | (simp; omega))).mono ?_
  rintro e W2 ⟨rfl, hS2, hb2x⟩
  go_wp2_with fail
  refine (hS2.byte 43 43 e43 (by first | omega | (simp; done) | (simp; omega))).mono ?_
  rintro e W3 ⟨rfl, hS3, hb3x⟩
  go_wp2_with fail
  refine (hS3.num ((dg.size : Int) + exp - 1) (by omega) (by omega)).mono ?_
  rintro e W4 ⟨rfl, hS4, hb4x⟩
  go_wp2_with fail
  refine (hS4.str ⟨(Lib.itoa ((dg.size : Int) + exp - 1)).toArray⟩ (by first | omega | (simp; done) | (simp; omega)) hr).mono ?_
  rintro e W5 ⟨rfl, hS5, hb5x⟩
  go_wp2_with fail
  refine (hS5.all).mono ?_
  rintro e WZ ⟨s, HS, rfl, hbz⟩
  go_wp2
  go_ret
  exact ⟨ret_str HS.out, HB0.out.trans (hb1x.trans (hb2x.trans (hb3x.trans (hb4x.trans (hb5x.trans hbz)))))⟩

set_option maxHeartbeats 1600000 in
theorem fm_neg_many_true (dg : ByteArray) (exp : Int) (w : World) (h1 : 1 ≤ dg.size) (h2 : dg.size ≤ 100000) (hx1 : exp ≤ 4611686018427387904) (hx2 : -4611686018427387904 ≤ exp) (hexp : exp < 0) (hpt : (dg.size : Int) + exp ≤ 0) (hsm : 100000 < 1 - ((dg.size : Int) + exp) + (dg.size : Int)) (hn : 1 < dg.size) (ht : Tab w) :
    Calls Tryd.prog 13 #[.bool true, .string dg, .int .i64 exp] w fun e w' => e = .returned (.string ⟨([] ++ [45] ++ ((dg.extract 0 1)).data.toList ++ [46] ++ ((dg.extract 1 dg.size)).data.toList ++ [101] ++ ((⟨(Lib.itoa ((dg.size : Int) + exp - 1)).toArray⟩ : ByteArray)).data.toList).toArray⟩) ∧ Below w.heap.size w w' := by
  have hS0 := St.start ht
  have HB0 : Hid (Below w.heap.size w (w.alloc (.cells #[.pointer .none, .slice .none 0 0] 34))) := below_alloc w _
  have hx3 := extract_len dg 0 1
  have hx4 := extract_len dg 1 dg.size
  have hr : (⟨(Lib.itoa ((dg.size : Int) + exp - 1)).toArray⟩ : ByteArray).size ≤ 1000000 := by rw [text_size]; have := itoa_len20 ((dg.size : Int) + exp - 1) (by omega) (by omega); omega
  clear ht
  go_enter Tryd.func13, Tryd.ntmps13
  go_wp2_with fail
  refine (hS0.byte 45 45 e45 (by first | omega | (simp; done) | (simp; omega))).mono ?_
  rintro e W1 ⟨rfl, hS1, hb1x⟩
  go_wp2_with fail
  refine (hS1.str (dg.extract 0 1) (by first | omega | (simp; done) | (simp; omega)) (by omega)).mono ?_
  rintro e W2 ⟨rfl, hS2, hb2x⟩
  go_wp2_with fail
  refine (hS2.byte 46 46 e46 (by first | omega | (simp; done) | (simp; omega))).mono ?_
  rintro e W3 ⟨rfl, hS3, hb3x⟩
  go_wp2_with fail
  refine (hS3.str (dg.extract 1 dg.size) (by first | omega | (simp; done) | (simp; omega)) (by omega)).mono ?_
  rintro e W4 ⟨rfl, hS4, hb4x⟩
  go_wp2_with fail
  refine (hS4.byte 101 101 e101 (by first | omega | (simp; done) | (simp; omega))).mono ?_
  rintro e W5 ⟨rfl, hS5, hb5x⟩
  go_wp2_with fail
  refine (hS5.num ((dg.size : Int) + exp - 1) (by omega) (by omega)).mono ?_
  rintro e W6 ⟨rfl, hS6, hb6x⟩
  go_wp2_with fail
  refine (hS6.str ⟨(Lib.itoa ((dg.size : Int) + exp - 1)).toArray⟩ (by first | omega | (simp; done) | (simp; omega)) hr).mono ?_
  rintro e W7 ⟨rfl, hS7, hb7x⟩
  go_wp2_with fail
  refine (hS7.all).mono ?_
  rintro e WZ ⟨s, HS, rfl, hbz⟩
  go_wp2
  go_ret
  exact ⟨ret_str HS.out, HB0.out.trans (hb1x.trans (hb2x.trans (hb3x.trans (hb4x.trans (hb5x.trans (hb6x.trans (hb7x.trans hbz)))))))⟩

set_option maxHeartbeats 1600000 in
theorem fm_neg_many_false (dg : ByteArray) (exp : Int) (w : World) (h1 : 1 ≤ dg.size) (h2 : dg.size ≤ 100000) (hx1 : exp ≤ 4611686018427387904) (hx2 : -4611686018427387904 ≤ exp) (hexp : exp < 0) (hpt : (dg.size : Int) + exp ≤ 0) (hsm : 100000 < 1 - ((dg.size : Int) + exp) + (dg.size : Int)) (hn : 1 < dg.size) (ht : Tab w) :
    Calls Tryd.prog 13 #[.bool false, .string dg, .int .i64 exp] w fun e w' => e = .returned (.string ⟨([] ++ ((dg.extract 0 1)).data.toList ++ [46] ++ ((dg.extract 1 dg.size)).data.toList ++ [101] ++ ((⟨(Lib.itoa ((dg.size : Int) + exp - 1)).toArray⟩ : ByteArray)).data.toList).toArray⟩) ∧ Below w.heap.size w w' := by
  have hS0 := St.start ht
  have HB0 : Hid (Below w.heap.size w (w.alloc (.cells #[.pointer .none, .slice .none 0 0] 34))) := below_alloc w _
  have hx3 := extract_len dg 0 1
  have hx4 := extract_len dg 1 dg.size
  have hr : (⟨(Lib.itoa ((dg.size : Int) + exp - 1)).toArray⟩ : ByteArray).size ≤ 1000000 := by rw [text_size]; have := itoa_len20 ((dg.size : Int) + exp - 1) (by omega) (by omega); omega
  clear ht
  go_enter Tryd.func13, Tryd.ntmps13
  go_wp2_with fail
  refine (hS0.str (dg.extract 0 1) (by first | omega | (simp; done) | (simp; omega)) (by omega)).mono ?_
  rintro e W1 ⟨rfl, hS1, hb1x⟩
  go_wp2_with fail
  refine (hS1.byte 46 46 e46 (by first | omega | (simp; done) | (simp; omega))).mono ?_
  rintro e W2 ⟨rfl, hS2, hb2x⟩
  go_wp2_with fail
  refine (hS2.str (dg.extract 1 dg.size) (by first | omega | (simp; done) | (simp; omega)) (by omega)).mono ?_
  rintro e W3 ⟨rfl, hS3, hb3x⟩
  go_wp2_with fail
  refine (hS3.byte 101 101 e101 (by first | omega | (simp; done) | (simp; omega))).mono ?_
  rintro e W4 ⟨rfl, hS4, hb4x⟩
  go_wp2_with fail
  refine (hS4.num ((dg.size : Int) + exp - 1) (by omega) (by omega)).mono ?_
  rintro e W5 ⟨rfl, hS5, hb5x⟩
  go_wp2_with fail
  refine (hS5.str ⟨(Lib.itoa ((dg.size : Int) + exp - 1)).toArray⟩ (by first | omega | (simp; done) | (simp; omega)) hr).mono ?_
  rintro e W6 ⟨rfl, hS6, hb6x⟩
  go_wp2_with fail
  refine (hS6.all).mono ?_
  rintro e WZ ⟨s, HS, rfl, hbz⟩
  go_wp2
  go_ret
  exact ⟨ret_str HS.out, HB0.out.trans (hb1x.trans (hb2x.trans (hb3x.trans (hb4x.trans (hb5x.trans (hb6x.trans hbz))))))⟩

set_option maxHeartbeats 1600000 in
theorem fm_neg_one_true (dg : ByteArray) (exp : Int) (w : World) (h1 : 1 ≤ dg.size) (h2 : dg.size ≤ 100000) (hx1 : exp ≤ 4611686018427387904) (hx2 : -4611686018427387904 ≤ exp) (hexp : exp < 0) (hpt : (dg.size : Int) + exp ≤ 0) (hsm : 100000 < 1 - ((dg.size : Int) + exp) + (dg.size : Int)) (hn : ¬ 1 < dg.size) (ht : Tab w) :
    Calls Tryd.prog 13 #[.bool true, .string dg, .int .i64 exp] w fun e w' => e = .returned (.string ⟨([] ++ [45] ++ ((dg.extract 0 1)).data.toList ++ [101] ++ ((⟨(Lib.itoa ((dg.size : Int) + exp - 1)).toArray⟩ : ByteArray)).data.toList).toArray⟩) ∧ Below w.heap.size w w' := by
  have hS0 := St.start ht
  have HB0 : Hid (Below w.heap.size w (w.alloc (.cells #[.pointer .none, .slice .none 0 0] 34))) := below_alloc w _
  have hx3 := extract_len dg 0 1
  have hx4 := extract_len dg 1 dg.size
  have hr : (⟨(Lib.itoa ((dg.size : Int) + exp - 1)).toArray⟩ : ByteArray).size ≤ 1000000 := by rw [text_size]; have := itoa_len20 ((dg.size : Int) + exp - 1) (by omega) (by omega); omega
  clear ht
  go_enter Tryd.func13, Tryd.ntmps13
  go_wp2_with fail
  refine (hS0.byte 45 45 e45 (by first | omega | (simp; done) | (simp; omega))).mono ?_
  rintro e W1 ⟨rfl, hS1, hb1x⟩
  go_wp2_with fail
  refine (hS1.str (dg.extract 0 1) (by first | omega | (simp; done) | (simp; omega)) (by omega)).mono ?_
  rintro e W2 ⟨rfl, hS2, hb2x⟩
  go_wp2_with fail
  refine (hS2.byte 101 101 e101 (by first | omega | (simp; done) | (simp; omega))).mono ?_
  rintro e W3 ⟨rfl, hS3, hb3x⟩
  go_wp2_with fail
  refine (hS3.num ((dg.size : Int) + exp - 1) (by omega) (by omega)).mono ?_
  rintro e W4 ⟨rfl, hS4, hb4x⟩
  go_wp2_with fail
  refine (hS4.str ⟨(Lib.itoa ((dg.size : Int) + exp - 1)).toArray⟩ (by first | omega | (simp; done) | (simp; omega)) hr).mono ?_
  rintro e W5 ⟨rfl, hS5, hb5x⟩
  go_wp2_with fail
  refine (hS5.all).mono ?_
  rintro e WZ ⟨s, HS, rfl, hbz⟩
  go_wp2
  go_ret
  exact ⟨ret_str HS.out, HB0.out.trans (hb1x.trans (hb2x.trans (hb3x.trans (hb4x.trans (hb5x.trans hbz)))))⟩

set_option maxHeartbeats 1600000 in
theorem fm_neg_one_false (dg : ByteArray) (exp : Int) (w : World) (h1 : 1 ≤ dg.size) (h2 : dg.size ≤ 100000) (hx1 : exp ≤ 4611686018427387904) (hx2 : -4611686018427387904 ≤ exp) (hexp : exp < 0) (hpt : (dg.size : Int) + exp ≤ 0) (hsm : 100000 < 1 - ((dg.size : Int) + exp) + (dg.size : Int)) (hn : ¬ 1 < dg.size) (ht : Tab w) :
    Calls Tryd.prog 13 #[.bool false, .string dg, .int .i64 exp] w fun e w' => e = .returned (.string ⟨([] ++ ((dg.extract 0 1)).data.toList ++ [101] ++ ((⟨(Lib.itoa ((dg.size : Int) + exp - 1)).toArray⟩ : ByteArray)).data.toList).toArray⟩) ∧ Below w.heap.size w w' := by
  have hS0 := St.start ht
  have HB0 : Hid (Below w.heap.size w (w.alloc (.cells #[.pointer .none, .slice .none 0 0] 34))) := below_alloc w _
  have hx3 := extract_len dg 0 1
  have hx4 := extract_len dg 1 dg.size
  have hr : (⟨(Lib.itoa ((dg.size : Int) + exp - 1)).toArray⟩ : ByteArray).size ≤ 1000000 := by rw [text_size]; have := itoa_len20 ((dg.size : Int) + exp - 1) (by omega) (by omega); omega
  clear ht
  go_enter Tryd.func13, Tryd.ntmps13
  go_wp2_with fail
  refine (hS0.str (dg.extract 0 1) (by first | omega | (simp; done) | (simp; omega)) (by omega)).mono ?_
  rintro e W1 ⟨rfl, hS1, hb1x⟩
  go_wp2_with fail
  refine (hS1.byte 101 101 e101 (by first | omega | (simp; done) | (simp; omega))).mono ?_
  rintro e W2 ⟨rfl, hS2, hb2x⟩
  go_wp2_with fail
  refine (hS2.num ((dg.size : Int) + exp - 1) (by omega) (by omega)).mono ?_
  rintro e W3 ⟨rfl, hS3, hb3x⟩
  go_wp2_with fail
  refine (hS3.str ⟨(Lib.itoa ((dg.size : Int) + exp - 1)).toArray⟩ (by first | omega | (simp; done) | (simp; omega)) hr).mono ?_
  rintro e W4 ⟨rfl, hS4, hb4x⟩
  go_wp2_with fail
  refine (hS4.all).mono ?_
  rintro e WZ ⟨s, HS, rfl, hbz⟩
  go_wp2
  go_ret
  exact ⟨ret_str HS.out, HB0.out.trans (hb1x.trans (hb2x.trans (hb3x.trans (hb4x.trans hbz))))⟩
end Go.Proofs.Qxb6603079aDoor
