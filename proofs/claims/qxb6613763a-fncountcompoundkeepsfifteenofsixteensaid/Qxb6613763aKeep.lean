/-
  The walk of FnCountCompoundKeepsFifteenOfSixteen.
-/
import Derived.Test.Qxb6613763aSess
namespace Go.Proofs.Qxb6613763a
open Go.RowKit

theorem f64d : FloatKind.f64.format = Ieee.double := rfl
theorem some39 : (Try.prog.underlying 39).isSome = true := by rw [Try.underlying39]; rfl

theorem keep_over (o s : Int) (x : Nat) (w : World) (h : ¬ (o = 28 ∨ o = 48)) :
    Calls Try.prog 7 #[.int .i64 o, .float .f64 x, .int .i64 s] w fun e w' => e = .returned (.bool true) ∧ Below w.heap.size w w' := by
  have h1 : (o != 28) = true := by simp; omega
  have h2 : (o != 48) = true := by simp; omega
  go_enter Try.func7, Try.ntmps7
  go_wp2
  go_ret
  exact ⟨rfl, Below.refl _ _⟩

theorem keep_size28 (s : Int) (x : Nat) (w : World) (hs : s < 0 ∨ 1073741824 < s) :
    Calls Try.prog 7 #[.int .i64 28, .float .f64 x, .int .i64 s] w fun e w' => e = .returned (.bool true) ∧ Below w.heap.size w w' := by
  rcases hs with hs | hs
  · have h1 : decide (s < 0) = true := decide_eq_true hs
    go_enter Try.func7, Try.ntmps7
    go_wp2
    go_ret
    exact ⟨rfl, Below.refl _ _⟩
  · have h1 : decide (s < 0) = false := decide_eq_false (by omega)
    go_enter Try.func7, Try.ntmps7
    go_wp2
    go_ret
    exact ⟨rfl, Below.refl _ _⟩

theorem keep_low28 (s : Int) (x : Nat) (w : World) (hs0 : 0 ≤ s) (hs1 : s ≤ 1073741824) (h : (FloatKind.f64.format.order x 4607182418800017408 == some .gt || FloatKind.f64.format.order x 4607182418800017408 == some .eq) = false) :
    Calls Try.prog 7 #[.int .i64 28, .float .f64 x, .int .i64 s] w fun e w' => e = .returned (.bool true) ∧ Below w.heap.size w w' := by
  have h1 : decide (s < 0) = false := decide_eq_false (by omega)
  go_enter Try.func7, Try.ntmps7
  go_wp2
  go_ret
  exact ⟨rfl, Below.refl _ _⟩

theorem keep_high28 (s : Int) (x : Nat) (w : World) (hs0 : 0 ≤ s) (hs1 : s ≤ 1073741824) (h : (FloatKind.f64.format.order x 4607182418800017408 == some .gt || FloatKind.f64.format.order x 4607182418800017408 == some .eq) = true)
    (h' : (FloatKind.f64.format.order x 4742290407621132288 == some .lt || FloatKind.f64.format.order x 4742290407621132288 == some .eq) = false) :
    Calls Try.prog 7 #[.int .i64 28, .float .f64 x, .int .i64 s] w fun e w' => e = .returned (.bool true) ∧ Below w.heap.size w w' := by
  have h1 : decide (s < 0) = false := decide_eq_false (by omega)
  go_enter Try.func7, Try.ntmps7
  go_wp2
  go_ret
  exact ⟨rfl, Below.refl _ _⟩

theorem keep_part28 (s : Int) (x N : Nat) (w : World) (hs0 : 0 ≤ s) (hs1 : s ≤ 1073741824) (h : (FloatKind.f64.format.order x 4607182418800017408 == some .gt || FloatKind.f64.format.order x 4607182418800017408 == some .eq) = true)
    (h' : (FloatKind.f64.format.order x 4742290407621132288 == some .lt || FloatKind.f64.format.order x 4742290407621132288 == some .eq) = true)
    (hN0 : 0 < N) (hN1 : N < 2147483648) (hcv : floatToIntVal .f64 x .i64 = some (N : Int)) (hne : (FloatKind.f64.format.order x (W (16 * N)) != some .eq) = true) :
    Calls Try.prog 7 #[.int .i64 28, .float .f64 x, .int .i64 s] w fun e w' => e = .returned (.bool true) ∧ Below w.heap.size w w' := by
  have h1 : decide (s < 0) = false := decide_eq_false (by omega)
  have hv := fun wx => run_convert_float_int (P := Try.prog) wx 39 2 .f64 .i64 x N some39 Try.underlying2 hcv
  have hf := ofInt_W N hN0 (by omega)
  clear hcv
  go_enter Try.func7, Try.ntmps7
  go_wp2
  go_ret
  exact ⟨rfl, Below.refl _ _⟩

theorem keep_size48 (s : Int) (x : Nat) (w : World) (hs : s < 0 ∨ 1073741824 < s) :
    Calls Try.prog 7 #[.int .i64 48, .float .f64 x, .int .i64 s] w fun e w' => e = .returned (.bool true) ∧ Below w.heap.size w w' := by
  rcases hs with hs | hs
  · have h1 : decide (s < 0) = true := decide_eq_true hs
    go_enter Try.func7, Try.ntmps7
    go_wp2
    go_ret
    exact ⟨rfl, Below.refl _ _⟩
  · have h1 : decide (s < 0) = false := decide_eq_false (by omega)
    go_enter Try.func7, Try.ntmps7
    go_wp2
    go_ret
    exact ⟨rfl, Below.refl _ _⟩

theorem keep_low48 (s : Int) (x : Nat) (w : World) (hs0 : 0 ≤ s) (hs1 : s ≤ 1073741824) (h : (FloatKind.f64.format.order x 4607182418800017408 == some .gt || FloatKind.f64.format.order x 4607182418800017408 == some .eq) = false) :
    Calls Try.prog 7 #[.int .i64 48, .float .f64 x, .int .i64 s] w fun e w' => e = .returned (.bool true) ∧ Below w.heap.size w w' := by
  have h1 : decide (s < 0) = false := decide_eq_false (by omega)
  go_enter Try.func7, Try.ntmps7
  go_wp2
  go_ret
  exact ⟨rfl, Below.refl _ _⟩

theorem keep_high48 (s : Int) (x : Nat) (w : World) (hs0 : 0 ≤ s) (hs1 : s ≤ 1073741824) (h : (FloatKind.f64.format.order x 4607182418800017408 == some .gt || FloatKind.f64.format.order x 4607182418800017408 == some .eq) = true)
    (h' : (FloatKind.f64.format.order x 4742290407621132288 == some .lt || FloatKind.f64.format.order x 4742290407621132288 == some .eq) = false) :
    Calls Try.prog 7 #[.int .i64 48, .float .f64 x, .int .i64 s] w fun e w' => e = .returned (.bool true) ∧ Below w.heap.size w w' := by
  have h1 : decide (s < 0) = false := decide_eq_false (by omega)
  go_enter Try.func7, Try.ntmps7
  go_wp2
  go_ret
  exact ⟨rfl, Below.refl _ _⟩

theorem keep_part48 (s : Int) (x N : Nat) (w : World) (hs0 : 0 ≤ s) (hs1 : s ≤ 1073741824) (h : (FloatKind.f64.format.order x 4607182418800017408 == some .gt || FloatKind.f64.format.order x 4607182418800017408 == some .eq) = true)
    (h' : (FloatKind.f64.format.order x 4742290407621132288 == some .lt || FloatKind.f64.format.order x 4742290407621132288 == some .eq) = true)
    (hN0 : 0 < N) (hN1 : N < 2147483648) (hcv : floatToIntVal .f64 x .i64 = some (N : Int)) (hne : (FloatKind.f64.format.order x (W (16 * N)) != some .eq) = true) :
    Calls Try.prog 7 #[.int .i64 48, .float .f64 x, .int .i64 s] w fun e w' => e = .returned (.bool true) ∧ Below w.heap.size w w' := by
  have h1 : decide (s < 0) = false := decide_eq_false (by omega)
  have hv := fun wx => run_convert_float_int (P := Try.prog) wx 39 2 .f64 .i64 x N some39 Try.underlying2 hcv
  have hf := ofInt_W N hN0 (by omega)
  clear hcv
  go_enter Try.func7, Try.ntmps7
  go_wp2
  go_ret
  exact ⟨rfl, Below.refl _ _⟩

set_option maxHeartbeats 1000000 in
theorem keep_main28_ly (S N : Nat) (w : World) (hs1 : S ≤ 1073741824) (hN0 : 0 < N) (hN1 : N < 2147483648) (hlt : S + 28 < N) (hge : 28 ≤ N)
    (h : (FloatKind.f64.format.order (W (16 * N)) 4607182418800017408 == some .gt || FloatKind.f64.format.order (W (16 * N)) 4607182418800017408 == some .eq) = true)
    (h' : (FloatKind.f64.format.order (W (16 * N)) 4742290407621132288 == some .lt || FloatKind.f64.format.order (W (16 * N)) 4742290407621132288 == some .eq) = true)
    (hcv : floatToIntVal .f64 (W (16 * N)) .i64 = some (N : Int)) :
    Calls Try.prog 7 #[.int .i64 28, .float .f64 (W (16 * N)), .int .i64 S] w fun e w' => e = .returned (.bool true) ∧ Below w.heap.size w w' := by
  have h1 : decide ((S : Int) < 0) = false := decide_eq_false (by omega)
  have hv := fun wx => run_convert_float_int (P := Try.prog) wx 39 2 .f64 .i64 (W (16 * N)) N some39 Try.underlying2 hcv
  have hv3 := fun wx => run_convert_float_int (P := Try.prog) wx 39 3 .f64 .i64 (W (16 * N)) N some39 Try.underlying3 hcv
  have hf := ofInt_W N hN0 (by omega)
  have hself : (FloatKind.f64.format.order (W (16 * N)) (W (16 * N)) != some .eq) = false := by
    rw [f64d, order_W _ _ (by omega) (by omega) (by omega) (by omega)]
    simp
  have hx : floatOfInt .f64 ((S : Int) + 28) = W (16 * (S + 28)) := ofInt_W (S + 28) (by omega) (by omega)
  have q0 := fun wx => run_float_arith (P := Try.prog) wx .add 39 .f64 (W (16 * N)) 4625196817309499392 (W (16 * (N + 16))) (by
    have := add_W (16 * N) 256 (by omega) (by omega) (by omega)
    rwa [W256, show 16 * N + 256 = 16 * (N + 16) by omega] at this)
  have q1 := fun wx => run_float_arith (P := Try.prog) wx .sub 39 .f64 (W (S + 28 + 15 * (N + 16))) (W (S + 28 + 15 * N)) (W 240) (by
    have := sub_W (S + 28 + 15 * (N + 16)) (S + 28 + 15 * N) (by omega) (by omega) (by omega)
    rwa [show S + 28 + 15 * (N + 16) - (S + 28 + 15 * N) = 240 by omega] at this)
  have q2 : (FloatKind.f64.format.order (W 240) 4624633867356078080 != some .eq) = false := by rw [W240]; decide
  have q3 : (FloatKind.f64.format.order (W (16 * (S + 28))) (W (16 * N)) == some .lt) = true := by
    rw [f64d, order_W _ _ (by omega) (by omega) (by omega) (by omega)]
    simp [Nat.compare_eq_lt]; omega
  have q4 : (FloatKind.f64.format.order (W (S + 28 + 15 * N)) (W (16 * (S + 28))) == some .lt) = false := by
    rw [f64d, order_W _ _ (by omega) (by omega) (by omega) (by omega)]
    simp [Nat.compare_eq_lt]; omega
  have q5 : (FloatKind.f64.format.order (W (S + 28 + 15 * N)) (W (16 * N)) == some .gt) = false := by
    rw [f64d, order_W _ _ (by omega) (by omega) (by omega) (by omega)]
    simp [Nat.compare_eq_gt]; omega
  clear hcv
  go_enter Try.func7, Try.ntmps7
  go_wp2_with fail
  refine (new13 _ _ _).mono ?_
  rintro e w1 ⟨rfl, rfl⟩
  go_wp2_with fail
  refine (count14 w.heap.size 28 S (S + 28) N _ (heap_alloc_new w _) (by omega) (by omega) hN0 (by omega) (by omega)).mono ?_
  rintro e w2 ⟨rfl, hg2, hB2⟩
  have Hg2 := hid_mk hg2
  have HB2 : Hid (Below w.heap.size w w2) := ((Below.refl _ _).alloc (Nat.le_refl _) _).trans hB2
  clear hg2 hB2
  go_wp2_with fail
  refine (avg15 w.heap.size 28 _ w2 Hg2.out).mono ?_
  rintro e w3 ⟨rfl, rfl⟩
  go_wp2_with fail
  refine (new13 _ _ _).mono ?_
  rintro e w3 ⟨rfl, rfl⟩
  go_wp2_with fail
  refine (count14 w2.heap.size 28 _ (S + 28) (N + 16) _ (heap_alloc_new w2 _) (by omega) (by omega) (by omega) (by omega) (by omega)).mono ?_
  rintro e w4 ⟨rfl, hg4, hB4⟩
  have Hg4 := hid_mk hg4
  have HB4 : Hid (Below w.heap.size w w4) := HB2.out.trans (((Below.refl _ _).alloc HB2.out.size _).trans (hB4.mono HB2.out.size))
  clear hg4 hB4
  go_wp2_with fail
  refine (avg15 w2.heap.size 28 _ w4 Hg4.out).mono ?_
  rintro e w5 ⟨rfl, rfl⟩
  go_wp2_with fail
  refine (new13 _ _ _).mono ?_
  rintro e w5 ⟨rfl, rfl⟩
  go_wp2_with fail
  refine (count14 w4.heap.size 28 _ N N _ (heap_alloc_new w4 _) (by omega) (by omega) (by omega) (by omega) (by omega)).mono ?_
  rintro e w6 ⟨rfl, hg6, hB6⟩
  rw [show N + 15 * N = 16 * N by omega] at hg6
  have Hg6 := hid_mk hg6
  have HB6 : Hid (Below w.heap.size w w6) := HB4.out.trans (((Below.refl _ _).alloc HB4.out.size _).trans (hB6.mono HB4.out.size))
  clear hg6 hB6
  go_wp2_with fail
  refine (avg15 w4.heap.size 28 _ w6 Hg6.out).mono ?_
  rintro e w7 ⟨rfl, rfl⟩
  go_wp2
  go_ret
  exact ⟨rfl, HB6.out⟩

set_option maxHeartbeats 1000000 in
theorem keep_main28_gy (S N : Nat) (w : World) (hs1 : S ≤ 1073741824) (hN0 : 0 < N) (hN1 : N < 2147483648) (hlt : N ≤ S + 28) (hge : 28 ≤ N)
    (h : (FloatKind.f64.format.order (W (16 * N)) 4607182418800017408 == some .gt || FloatKind.f64.format.order (W (16 * N)) 4607182418800017408 == some .eq) = true)
    (h' : (FloatKind.f64.format.order (W (16 * N)) 4742290407621132288 == some .lt || FloatKind.f64.format.order (W (16 * N)) 4742290407621132288 == some .eq) = true)
    (hcv : floatToIntVal .f64 (W (16 * N)) .i64 = some (N : Int)) :
    Calls Try.prog 7 #[.int .i64 28, .float .f64 (W (16 * N)), .int .i64 S] w fun e w' => e = .returned (.bool true) ∧ Below w.heap.size w w' := by
  have h1 : decide ((S : Int) < 0) = false := decide_eq_false (by omega)
  have hv := fun wx => run_convert_float_int (P := Try.prog) wx 39 2 .f64 .i64 (W (16 * N)) N some39 Try.underlying2 hcv
  have hv3 := fun wx => run_convert_float_int (P := Try.prog) wx 39 3 .f64 .i64 (W (16 * N)) N some39 Try.underlying3 hcv
  have hf := ofInt_W N hN0 (by omega)
  have hself : (FloatKind.f64.format.order (W (16 * N)) (W (16 * N)) != some .eq) = false := by
    rw [f64d, order_W _ _ (by omega) (by omega) (by omega) (by omega)]
    simp
  have hx : floatOfInt .f64 ((S : Int) + 28) = W (16 * (S + 28)) := ofInt_W (S + 28) (by omega) (by omega)
  have q0 := fun wx => run_float_arith (P := Try.prog) wx .add 39 .f64 (W (16 * N)) 4625196817309499392 (W (16 * (N + 16))) (by
    have := add_W (16 * N) 256 (by omega) (by omega) (by omega)
    rwa [W256, show 16 * N + 256 = 16 * (N + 16) by omega] at this)
  have q1 := fun wx => run_float_arith (P := Try.prog) wx .sub 39 .f64 (W (S + 28 + 15 * (N + 16))) (W (S + 28 + 15 * N)) (W 240) (by
    have := sub_W (S + 28 + 15 * (N + 16)) (S + 28 + 15 * N) (by omega) (by omega) (by omega)
    rwa [show S + 28 + 15 * (N + 16) - (S + 28 + 15 * N) = 240 by omega] at this)
  have q2 : (FloatKind.f64.format.order (W 240) 4624633867356078080 != some .eq) = false := by rw [W240]; decide
  have q3 : (FloatKind.f64.format.order (W (16 * (S + 28))) (W (16 * N)) == some .lt) = false := by
    rw [f64d, order_W _ _ (by omega) (by omega) (by omega) (by omega)]
    simp [Nat.compare_eq_lt]; omega
  have q4 : (FloatKind.f64.format.order (W (S + 28 + 15 * N)) (W (16 * N)) == some .lt) = false := by
    rw [f64d, order_W _ _ (by omega) (by omega) (by omega) (by omega)]
    simp [Nat.compare_eq_lt]; omega
  have q5 : (FloatKind.f64.format.order (W (S + 28 + 15 * N)) (W (16 * (S + 28))) == some .gt) = false := by
    rw [f64d, order_W _ _ (by omega) (by omega) (by omega) (by omega)]
    simp [Nat.compare_eq_gt]; omega
  clear hcv
  go_enter Try.func7, Try.ntmps7
  go_wp2_with fail
  refine (new13 _ _ _).mono ?_
  rintro e w1 ⟨rfl, rfl⟩
  go_wp2_with fail
  refine (count14 w.heap.size 28 S (S + 28) N _ (heap_alloc_new w _) (by omega) (by omega) hN0 (by omega) (by omega)).mono ?_
  rintro e w2 ⟨rfl, hg2, hB2⟩
  have Hg2 := hid_mk hg2
  have HB2 : Hid (Below w.heap.size w w2) := ((Below.refl _ _).alloc (Nat.le_refl _) _).trans hB2
  clear hg2 hB2
  go_wp2_with fail
  refine (avg15 w.heap.size 28 _ w2 Hg2.out).mono ?_
  rintro e w3 ⟨rfl, rfl⟩
  go_wp2_with fail
  refine (new13 _ _ _).mono ?_
  rintro e w3 ⟨rfl, rfl⟩
  go_wp2_with fail
  refine (count14 w2.heap.size 28 _ (S + 28) (N + 16) _ (heap_alloc_new w2 _) (by omega) (by omega) (by omega) (by omega) (by omega)).mono ?_
  rintro e w4 ⟨rfl, hg4, hB4⟩
  have Hg4 := hid_mk hg4
  have HB4 : Hid (Below w.heap.size w w4) := HB2.out.trans (((Below.refl _ _).alloc HB2.out.size _).trans (hB4.mono HB2.out.size))
  clear hg4 hB4
  go_wp2_with fail
  refine (avg15 w2.heap.size 28 _ w4 Hg4.out).mono ?_
  rintro e w5 ⟨rfl, rfl⟩
  go_wp2_with fail
  refine (new13 _ _ _).mono ?_
  rintro e w5 ⟨rfl, rfl⟩
  go_wp2_with fail
  refine (count14 w4.heap.size 28 _ N N _ (heap_alloc_new w4 _) (by omega) (by omega) (by omega) (by omega) (by omega)).mono ?_
  rintro e w6 ⟨rfl, hg6, hB6⟩
  rw [show N + 15 * N = 16 * N by omega] at hg6
  have Hg6 := hid_mk hg6
  have HB6 : Hid (Below w.heap.size w w6) := HB4.out.trans (((Below.refl _ _).alloc HB4.out.size _).trans (hB6.mono HB4.out.size))
  clear hg6 hB6
  go_wp2_with fail
  refine (avg15 w4.heap.size 28 _ w6 Hg6.out).mono ?_
  rintro e w7 ⟨rfl, rfl⟩
  go_wp2
  go_ret
  exact ⟨rfl, HB6.out⟩

set_option maxHeartbeats 1000000 in
theorem keep_main28_gn (S N : Nat) (w : World) (hs1 : S ≤ 1073741824) (hN0 : 0 < N) (hN1 : N < 2147483648) (hlt : N ≤ S + 28) (hge : N < 28)
    (h : (FloatKind.f64.format.order (W (16 * N)) 4607182418800017408 == some .gt || FloatKind.f64.format.order (W (16 * N)) 4607182418800017408 == some .eq) = true)
    (h' : (FloatKind.f64.format.order (W (16 * N)) 4742290407621132288 == some .lt || FloatKind.f64.format.order (W (16 * N)) 4742290407621132288 == some .eq) = true)
    (hcv : floatToIntVal .f64 (W (16 * N)) .i64 = some (N : Int)) :
    Calls Try.prog 7 #[.int .i64 28, .float .f64 (W (16 * N)), .int .i64 S] w fun e w' => e = .returned (.bool true) ∧ Below w.heap.size w w' := by
  have h1 : decide ((S : Int) < 0) = false := decide_eq_false (by omega)
  have hv := fun wx => run_convert_float_int (P := Try.prog) wx 39 2 .f64 .i64 (W (16 * N)) N some39 Try.underlying2 hcv
  have hv3 := fun wx => run_convert_float_int (P := Try.prog) wx 39 3 .f64 .i64 (W (16 * N)) N some39 Try.underlying3 hcv
  have hf := ofInt_W N hN0 (by omega)
  have hself : (FloatKind.f64.format.order (W (16 * N)) (W (16 * N)) != some .eq) = false := by
    rw [f64d, order_W _ _ (by omega) (by omega) (by omega) (by omega)]
    simp
  have hx : floatOfInt .f64 ((S : Int) + 28) = W (16 * (S + 28)) := ofInt_W (S + 28) (by omega) (by omega)
  have q0 := fun wx => run_float_arith (P := Try.prog) wx .add 39 .f64 (W (16 * N)) 4625196817309499392 (W (16 * (N + 16))) (by
    have := add_W (16 * N) 256 (by omega) (by omega) (by omega)
    rwa [W256, show 16 * N + 256 = 16 * (N + 16) by omega] at this)
  have q1 := fun wx => run_float_arith (P := Try.prog) wx .sub 39 .f64 (W (S + 28 + 15 * (N + 16))) (W (S + 28 + 15 * N)) (W 240) (by
    have := sub_W (S + 28 + 15 * (N + 16)) (S + 28 + 15 * N) (by omega) (by omega) (by omega)
    rwa [show S + 28 + 15 * (N + 16) - (S + 28 + 15 * N) = 240 by omega] at this)
  have q2 : (FloatKind.f64.format.order (W 240) 4624633867356078080 != some .eq) = false := by rw [W240]; decide
  have q3 : (FloatKind.f64.format.order (W (16 * (S + 28))) (W (16 * N)) == some .lt) = false := by
    rw [f64d, order_W _ _ (by omega) (by omega) (by omega) (by omega)]
    simp [Nat.compare_eq_lt]; omega
  have q4 : (FloatKind.f64.format.order (W (S + 28 + 15 * N)) (W (16 * N)) == some .lt) = false := by
    rw [f64d, order_W _ _ (by omega) (by omega) (by omega) (by omega)]
    simp [Nat.compare_eq_lt]; omega
  have q5 : (FloatKind.f64.format.order (W (S + 28 + 15 * N)) (W (16 * (S + 28))) == some .gt) = false := by
    rw [f64d, order_W _ _ (by omega) (by omega) (by omega) (by omega)]
    simp [Nat.compare_eq_gt]; omega
  clear hcv
  go_enter Try.func7, Try.ntmps7
  go_wp2_with fail
  refine (new13 _ _ _).mono ?_
  rintro e w1 ⟨rfl, rfl⟩
  go_wp2_with fail
  refine (count14 w.heap.size 28 S (S + 28) N _ (heap_alloc_new w _) (by omega) (by omega) hN0 (by omega) (by omega)).mono ?_
  rintro e w2 ⟨rfl, hg2, hB2⟩
  have Hg2 := hid_mk hg2
  have HB2 : Hid (Below w.heap.size w w2) := ((Below.refl _ _).alloc (Nat.le_refl _) _).trans hB2
  clear hg2 hB2
  go_wp2_with fail
  refine (avg15 w.heap.size 28 _ w2 Hg2.out).mono ?_
  rintro e w3 ⟨rfl, rfl⟩
  go_wp2_with fail
  refine (new13 _ _ _).mono ?_
  rintro e w3 ⟨rfl, rfl⟩
  go_wp2_with fail
  refine (count14 w2.heap.size 28 _ (S + 28) (N + 16) _ (heap_alloc_new w2 _) (by omega) (by omega) (by omega) (by omega) (by omega)).mono ?_
  rintro e w4 ⟨rfl, hg4, hB4⟩
  have Hg4 := hid_mk hg4
  have HB4 : Hid (Below w.heap.size w w4) := HB2.out.trans (((Below.refl _ _).alloc HB2.out.size _).trans (hB4.mono HB2.out.size))
  clear hg4 hB4
  go_wp2_with fail
  refine (avg15 w2.heap.size 28 _ w4 Hg4.out).mono ?_
  rintro e w5 ⟨rfl, rfl⟩
  go_wp2
  go_ret
  exact ⟨rfl, HB4.out⟩

theorem keep_main28 (S N : Nat) (w : World) (hs1 : S ≤ 1073741824) (hN0 : 0 < N) (hN1 : N < 2147483648)
    (h : (FloatKind.f64.format.order (W (16 * N)) 4607182418800017408 == some .gt || FloatKind.f64.format.order (W (16 * N)) 4607182418800017408 == some .eq) = true)
    (h' : (FloatKind.f64.format.order (W (16 * N)) 4742290407621132288 == some .lt || FloatKind.f64.format.order (W (16 * N)) 4742290407621132288 == some .eq) = true)
    (hcv : floatToIntVal .f64 (W (16 * N)) .i64 = some (N : Int)) :
    Calls Try.prog 7 #[.int .i64 28, .float .f64 (W (16 * N)), .int .i64 S] w fun e w' => e = .returned (.bool true) ∧ Below w.heap.size w w' := by
  by_cases hlt : S + 28 < N <;> by_cases hge : 28 ≤ N
  · exact keep_main28_ly S N w hs1 hN0 hN1 hlt hge h h' hcv
  · omega
  · exact keep_main28_gy S N w hs1 hN0 hN1 (by omega) hge h h' hcv
  · exact keep_main28_gn S N w hs1 hN0 hN1 (by omega) (by omega) h h' hcv

set_option maxHeartbeats 1000000 in
theorem keep_main48_ly (S N : Nat) (w : World) (hs1 : S ≤ 1073741824) (hN0 : 0 < N) (hN1 : N < 2147483648) (hlt : S + 48 < N) (hge : 48 ≤ N)
    (h : (FloatKind.f64.format.order (W (16 * N)) 4607182418800017408 == some .gt || FloatKind.f64.format.order (W (16 * N)) 4607182418800017408 == some .eq) = true)
    (h' : (FloatKind.f64.format.order (W (16 * N)) 4742290407621132288 == some .lt || FloatKind.f64.format.order (W (16 * N)) 4742290407621132288 == some .eq) = true)
    (hcv : floatToIntVal .f64 (W (16 * N)) .i64 = some (N : Int)) :
    Calls Try.prog 7 #[.int .i64 48, .float .f64 (W (16 * N)), .int .i64 S] w fun e w' => e = .returned (.bool true) ∧ Below w.heap.size w w' := by
  have h1 : decide ((S : Int) < 0) = false := decide_eq_false (by omega)
  have hv := fun wx => run_convert_float_int (P := Try.prog) wx 39 2 .f64 .i64 (W (16 * N)) N some39 Try.underlying2 hcv
  have hv3 := fun wx => run_convert_float_int (P := Try.prog) wx 39 3 .f64 .i64 (W (16 * N)) N some39 Try.underlying3 hcv
  have hf := ofInt_W N hN0 (by omega)
  have hself : (FloatKind.f64.format.order (W (16 * N)) (W (16 * N)) != some .eq) = false := by
    rw [f64d, order_W _ _ (by omega) (by omega) (by omega) (by omega)]
    simp
  have hx : floatOfInt .f64 ((S : Int) + 48) = W (16 * (S + 48)) := ofInt_W (S + 48) (by omega) (by omega)
  have q0 := fun wx => run_float_arith (P := Try.prog) wx .add 39 .f64 (W (16 * N)) 4625196817309499392 (W (16 * (N + 16))) (by
    have := add_W (16 * N) 256 (by omega) (by omega) (by omega)
    rwa [W256, show 16 * N + 256 = 16 * (N + 16) by omega] at this)
  have q1 := fun wx => run_float_arith (P := Try.prog) wx .sub 39 .f64 (W (S + 48 + 15 * (N + 16))) (W (S + 48 + 15 * N)) (W 240) (by
    have := sub_W (S + 48 + 15 * (N + 16)) (S + 48 + 15 * N) (by omega) (by omega) (by omega)
    rwa [show S + 48 + 15 * (N + 16) - (S + 48 + 15 * N) = 240 by omega] at this)
  have q2 : (FloatKind.f64.format.order (W 240) 4624633867356078080 != some .eq) = false := by rw [W240]; decide
  have q3 : (FloatKind.f64.format.order (W (16 * (S + 48))) (W (16 * N)) == some .lt) = true := by
    rw [f64d, order_W _ _ (by omega) (by omega) (by omega) (by omega)]
    simp [Nat.compare_eq_lt]; omega
  have q4 : (FloatKind.f64.format.order (W (S + 48 + 15 * N)) (W (16 * (S + 48))) == some .lt) = false := by
    rw [f64d, order_W _ _ (by omega) (by omega) (by omega) (by omega)]
    simp [Nat.compare_eq_lt]; omega
  have q5 : (FloatKind.f64.format.order (W (S + 48 + 15 * N)) (W (16 * N)) == some .gt) = false := by
    rw [f64d, order_W _ _ (by omega) (by omega) (by omega) (by omega)]
    simp [Nat.compare_eq_gt]; omega
  clear hcv
  go_enter Try.func7, Try.ntmps7
  go_wp2_with fail
  refine (new13 _ _ _).mono ?_
  rintro e w1 ⟨rfl, rfl⟩
  go_wp2_with fail
  refine (count14 w.heap.size 48 S (S + 48) N _ (heap_alloc_new w _) (by omega) (by omega) hN0 (by omega) (by omega)).mono ?_
  rintro e w2 ⟨rfl, hg2, hB2⟩
  have Hg2 := hid_mk hg2
  have HB2 : Hid (Below w.heap.size w w2) := ((Below.refl _ _).alloc (Nat.le_refl _) _).trans hB2
  clear hg2 hB2
  go_wp2_with fail
  refine (avg15 w.heap.size 48 _ w2 Hg2.out).mono ?_
  rintro e w3 ⟨rfl, rfl⟩
  go_wp2_with fail
  refine (new13 _ _ _).mono ?_
  rintro e w3 ⟨rfl, rfl⟩
  go_wp2_with fail
  refine (count14 w2.heap.size 48 _ (S + 48) (N + 16) _ (heap_alloc_new w2 _) (by omega) (by omega) (by omega) (by omega) (by omega)).mono ?_
  rintro e w4 ⟨rfl, hg4, hB4⟩
  have Hg4 := hid_mk hg4
  have HB4 : Hid (Below w.heap.size w w4) := HB2.out.trans (((Below.refl _ _).alloc HB2.out.size _).trans (hB4.mono HB2.out.size))
  clear hg4 hB4
  go_wp2_with fail
  refine (avg15 w2.heap.size 48 _ w4 Hg4.out).mono ?_
  rintro e w5 ⟨rfl, rfl⟩
  go_wp2_with fail
  refine (new13 _ _ _).mono ?_
  rintro e w5 ⟨rfl, rfl⟩
  go_wp2_with fail
  refine (count14 w4.heap.size 48 _ N N _ (heap_alloc_new w4 _) (by omega) (by omega) (by omega) (by omega) (by omega)).mono ?_
  rintro e w6 ⟨rfl, hg6, hB6⟩
  rw [show N + 15 * N = 16 * N by omega] at hg6
  have Hg6 := hid_mk hg6
  have HB6 : Hid (Below w.heap.size w w6) := HB4.out.trans (((Below.refl _ _).alloc HB4.out.size _).trans (hB6.mono HB4.out.size))
  clear hg6 hB6
  go_wp2_with fail
  refine (avg15 w4.heap.size 48 _ w6 Hg6.out).mono ?_
  rintro e w7 ⟨rfl, rfl⟩
  go_wp2
  go_ret
  exact ⟨rfl, HB6.out⟩

set_option maxHeartbeats 1000000 in
theorem keep_main48_gy (S N : Nat) (w : World) (hs1 : S ≤ 1073741824) (hN0 : 0 < N) (hN1 : N < 2147483648) (hlt : N ≤ S + 48) (hge : 48 ≤ N)
    (h : (FloatKind.f64.format.order (W (16 * N)) 4607182418800017408 == some .gt || FloatKind.f64.format.order (W (16 * N)) 4607182418800017408 == some .eq) = true)
    (h' : (FloatKind.f64.format.order (W (16 * N)) 4742290407621132288 == some .lt || FloatKind.f64.format.order (W (16 * N)) 4742290407621132288 == some .eq) = true)
    (hcv : floatToIntVal .f64 (W (16 * N)) .i64 = some (N : Int)) :
    Calls Try.prog 7 #[.int .i64 48, .float .f64 (W (16 * N)), .int .i64 S] w fun e w' => e = .returned (.bool true) ∧ Below w.heap.size w w' := by
  have h1 : decide ((S : Int) < 0) = false := decide_eq_false (by omega)
  have hv := fun wx => run_convert_float_int (P := Try.prog) wx 39 2 .f64 .i64 (W (16 * N)) N some39 Try.underlying2 hcv
  have hv3 := fun wx => run_convert_float_int (P := Try.prog) wx 39 3 .f64 .i64 (W (16 * N)) N some39 Try.underlying3 hcv
  have hf := ofInt_W N hN0 (by omega)
  have hself : (FloatKind.f64.format.order (W (16 * N)) (W (16 * N)) != some .eq) = false := by
    rw [f64d, order_W _ _ (by omega) (by omega) (by omega) (by omega)]
    simp
  have hx : floatOfInt .f64 ((S : Int) + 48) = W (16 * (S + 48)) := ofInt_W (S + 48) (by omega) (by omega)
  have q0 := fun wx => run_float_arith (P := Try.prog) wx .add 39 .f64 (W (16 * N)) 4625196817309499392 (W (16 * (N + 16))) (by
    have := add_W (16 * N) 256 (by omega) (by omega) (by omega)
    rwa [W256, show 16 * N + 256 = 16 * (N + 16) by omega] at this)
  have q1 := fun wx => run_float_arith (P := Try.prog) wx .sub 39 .f64 (W (S + 48 + 15 * (N + 16))) (W (S + 48 + 15 * N)) (W 240) (by
    have := sub_W (S + 48 + 15 * (N + 16)) (S + 48 + 15 * N) (by omega) (by omega) (by omega)
    rwa [show S + 48 + 15 * (N + 16) - (S + 48 + 15 * N) = 240 by omega] at this)
  have q2 : (FloatKind.f64.format.order (W 240) 4624633867356078080 != some .eq) = false := by rw [W240]; decide
  have q3 : (FloatKind.f64.format.order (W (16 * (S + 48))) (W (16 * N)) == some .lt) = false := by
    rw [f64d, order_W _ _ (by omega) (by omega) (by omega) (by omega)]
    simp [Nat.compare_eq_lt]; omega
  have q4 : (FloatKind.f64.format.order (W (S + 48 + 15 * N)) (W (16 * N)) == some .lt) = false := by
    rw [f64d, order_W _ _ (by omega) (by omega) (by omega) (by omega)]
    simp [Nat.compare_eq_lt]; omega
  have q5 : (FloatKind.f64.format.order (W (S + 48 + 15 * N)) (W (16 * (S + 48))) == some .gt) = false := by
    rw [f64d, order_W _ _ (by omega) (by omega) (by omega) (by omega)]
    simp [Nat.compare_eq_gt]; omega
  clear hcv
  go_enter Try.func7, Try.ntmps7
  go_wp2_with fail
  refine (new13 _ _ _).mono ?_
  rintro e w1 ⟨rfl, rfl⟩
  go_wp2_with fail
  refine (count14 w.heap.size 48 S (S + 48) N _ (heap_alloc_new w _) (by omega) (by omega) hN0 (by omega) (by omega)).mono ?_
  rintro e w2 ⟨rfl, hg2, hB2⟩
  have Hg2 := hid_mk hg2
  have HB2 : Hid (Below w.heap.size w w2) := ((Below.refl _ _).alloc (Nat.le_refl _) _).trans hB2
  clear hg2 hB2
  go_wp2_with fail
  refine (avg15 w.heap.size 48 _ w2 Hg2.out).mono ?_
  rintro e w3 ⟨rfl, rfl⟩
  go_wp2_with fail
  refine (new13 _ _ _).mono ?_
  rintro e w3 ⟨rfl, rfl⟩
  go_wp2_with fail
  refine (count14 w2.heap.size 48 _ (S + 48) (N + 16) _ (heap_alloc_new w2 _) (by omega) (by omega) (by omega) (by omega) (by omega)).mono ?_
  rintro e w4 ⟨rfl, hg4, hB4⟩
  have Hg4 := hid_mk hg4
  have HB4 : Hid (Below w.heap.size w w4) := HB2.out.trans (((Below.refl _ _).alloc HB2.out.size _).trans (hB4.mono HB2.out.size))
  clear hg4 hB4
  go_wp2_with fail
  refine (avg15 w2.heap.size 48 _ w4 Hg4.out).mono ?_
  rintro e w5 ⟨rfl, rfl⟩
  go_wp2_with fail
  refine (new13 _ _ _).mono ?_
  rintro e w5 ⟨rfl, rfl⟩
  go_wp2_with fail
  refine (count14 w4.heap.size 48 _ N N _ (heap_alloc_new w4 _) (by omega) (by omega) (by omega) (by omega) (by omega)).mono ?_
  rintro e w6 ⟨rfl, hg6, hB6⟩
  rw [show N + 15 * N = 16 * N by omega] at hg6
  have Hg6 := hid_mk hg6
  have HB6 : Hid (Below w.heap.size w w6) := HB4.out.trans (((Below.refl _ _).alloc HB4.out.size _).trans (hB6.mono HB4.out.size))
  clear hg6 hB6
  go_wp2_with fail
  refine (avg15 w4.heap.size 48 _ w6 Hg6.out).mono ?_
  rintro e w7 ⟨rfl, rfl⟩
  go_wp2
  go_ret
  exact ⟨rfl, HB6.out⟩

set_option maxHeartbeats 1000000 in
theorem keep_main48_gn (S N : Nat) (w : World) (hs1 : S ≤ 1073741824) (hN0 : 0 < N) (hN1 : N < 2147483648) (hlt : N ≤ S + 48) (hge : N < 48)
    (h : (FloatKind.f64.format.order (W (16 * N)) 4607182418800017408 == some .gt || FloatKind.f64.format.order (W (16 * N)) 4607182418800017408 == some .eq) = true)
    (h' : (FloatKind.f64.format.order (W (16 * N)) 4742290407621132288 == some .lt || FloatKind.f64.format.order (W (16 * N)) 4742290407621132288 == some .eq) = true)
    (hcv : floatToIntVal .f64 (W (16 * N)) .i64 = some (N : Int)) :
    Calls Try.prog 7 #[.int .i64 48, .float .f64 (W (16 * N)), .int .i64 S] w fun e w' => e = .returned (.bool true) ∧ Below w.heap.size w w' := by
  have h1 : decide ((S : Int) < 0) = false := decide_eq_false (by omega)
  have hv := fun wx => run_convert_float_int (P := Try.prog) wx 39 2 .f64 .i64 (W (16 * N)) N some39 Try.underlying2 hcv
  have hv3 := fun wx => run_convert_float_int (P := Try.prog) wx 39 3 .f64 .i64 (W (16 * N)) N some39 Try.underlying3 hcv
  have hf := ofInt_W N hN0 (by omega)
  have hself : (FloatKind.f64.format.order (W (16 * N)) (W (16 * N)) != some .eq) = false := by
    rw [f64d, order_W _ _ (by omega) (by omega) (by omega) (by omega)]
    simp
  have hx : floatOfInt .f64 ((S : Int) + 48) = W (16 * (S + 48)) := ofInt_W (S + 48) (by omega) (by omega)
  have q0 := fun wx => run_float_arith (P := Try.prog) wx .add 39 .f64 (W (16 * N)) 4625196817309499392 (W (16 * (N + 16))) (by
    have := add_W (16 * N) 256 (by omega) (by omega) (by omega)
    rwa [W256, show 16 * N + 256 = 16 * (N + 16) by omega] at this)
  have q1 := fun wx => run_float_arith (P := Try.prog) wx .sub 39 .f64 (W (S + 48 + 15 * (N + 16))) (W (S + 48 + 15 * N)) (W 240) (by
    have := sub_W (S + 48 + 15 * (N + 16)) (S + 48 + 15 * N) (by omega) (by omega) (by omega)
    rwa [show S + 48 + 15 * (N + 16) - (S + 48 + 15 * N) = 240 by omega] at this)
  have q2 : (FloatKind.f64.format.order (W 240) 4624633867356078080 != some .eq) = false := by rw [W240]; decide
  have q3 : (FloatKind.f64.format.order (W (16 * (S + 48))) (W (16 * N)) == some .lt) = false := by
    rw [f64d, order_W _ _ (by omega) (by omega) (by omega) (by omega)]
    simp [Nat.compare_eq_lt]; omega
  have q4 : (FloatKind.f64.format.order (W (S + 48 + 15 * N)) (W (16 * N)) == some .lt) = false := by
    rw [f64d, order_W _ _ (by omega) (by omega) (by omega) (by omega)]
    simp [Nat.compare_eq_lt]; omega
  have q5 : (FloatKind.f64.format.order (W (S + 48 + 15 * N)) (W (16 * (S + 48))) == some .gt) = false := by
    rw [f64d, order_W _ _ (by omega) (by omega) (by omega) (by omega)]
    simp [Nat.compare_eq_gt]; omega
  clear hcv
  go_enter Try.func7, Try.ntmps7
  go_wp2_with fail
  refine (new13 _ _ _).mono ?_
  rintro e w1 ⟨rfl, rfl⟩
  go_wp2_with fail
  refine (count14 w.heap.size 48 S (S + 48) N _ (heap_alloc_new w _) (by omega) (by omega) hN0 (by omega) (by omega)).mono ?_
  rintro e w2 ⟨rfl, hg2, hB2⟩
  have Hg2 := hid_mk hg2
  have HB2 : Hid (Below w.heap.size w w2) := ((Below.refl _ _).alloc (Nat.le_refl _) _).trans hB2
  clear hg2 hB2
  go_wp2_with fail
  refine (avg15 w.heap.size 48 _ w2 Hg2.out).mono ?_
  rintro e w3 ⟨rfl, rfl⟩
  go_wp2_with fail
  refine (new13 _ _ _).mono ?_
  rintro e w3 ⟨rfl, rfl⟩
  go_wp2_with fail
  refine (count14 w2.heap.size 48 _ (S + 48) (N + 16) _ (heap_alloc_new w2 _) (by omega) (by omega) (by omega) (by omega) (by omega)).mono ?_
  rintro e w4 ⟨rfl, hg4, hB4⟩
  have Hg4 := hid_mk hg4
  have HB4 : Hid (Below w.heap.size w w4) := HB2.out.trans (((Below.refl _ _).alloc HB2.out.size _).trans (hB4.mono HB2.out.size))
  clear hg4 hB4
  go_wp2_with fail
  refine (avg15 w2.heap.size 48 _ w4 Hg4.out).mono ?_
  rintro e w5 ⟨rfl, rfl⟩
  go_wp2
  go_ret
  exact ⟨rfl, HB4.out⟩

theorem keep_main48 (S N : Nat) (w : World) (hs1 : S ≤ 1073741824) (hN0 : 0 < N) (hN1 : N < 2147483648)
    (h : (FloatKind.f64.format.order (W (16 * N)) 4607182418800017408 == some .gt || FloatKind.f64.format.order (W (16 * N)) 4607182418800017408 == some .eq) = true)
    (h' : (FloatKind.f64.format.order (W (16 * N)) 4742290407621132288 == some .lt || FloatKind.f64.format.order (W (16 * N)) 4742290407621132288 == some .eq) = true)
    (hcv : floatToIntVal .f64 (W (16 * N)) .i64 = some (N : Int)) :
    Calls Try.prog 7 #[.int .i64 48, .float .f64 (W (16 * N)), .int .i64 S] w fun e w' => e = .returned (.bool true) ∧ Below w.heap.size w w' := by
  by_cases hlt : S + 48 < N <;> by_cases hge : 48 ≤ N
  · exact keep_main48_ly S N w hs1 hN0 hN1 hlt hge h h' hcv
  · omega
  · exact keep_main48_gy S N w hs1 hN0 hN1 (by omega) hge h h' hcv
  · exact keep_main48_gn S N w hs1 hN0 hN1 (by omega) (by omega) h h' hcv

theorem keep_any (o s : Int) (x : Nat) (w : World) (hx : x < 18446744073709551616) :
    Calls Try.prog 7 #[.int .i64 o, .float .f64 x, .int .i64 s] w fun e w' => e = .returned (.bool true) ∧ Below w.heap.size w w' := by
  by_cases ho : ¬ (o = 28 ∨ o = 48)
  · exact keep_over o s x w ho
  rcases Classical.not_not.1 ho with rfl | rfl
  · by_cases hs : s < 0 ∨ 1073741824 < s
    · exact keep_size28 s x w hs
    cases h1 : (FloatKind.f64.format.order x 4607182418800017408 == some .gt || FloatKind.f64.format.order x 4607182418800017408 == some .eq)
    · exact keep_low28 s x w (by omega) (by omega) h1
    cases h2 : (FloatKind.f64.format.order x 4742290407621132288 == some .lt || FloatKind.f64.format.order x 4742290407621132288 == some .eq)
    · exact keep_high28 s x w (by omega) (by omega) h1 h2
    obtain ⟨N, hN0, hN1, hcv, hw⟩ := avg_cases x hx (by have := h1; rw [f64d] at this; simpa using this) (by have := h2; rw [f64d] at this; simpa using this)
    cases h3 : (FloatKind.f64.format.order x (W (16 * N)) != some .eq)
    · have hx' := hw (by have := h3; rw [f64d] at this; simpa using this)
      subst hx'
      obtain ⟨S, rfl⟩ := Int.eq_ofNat_of_zero_le (show 0 ≤ s by omega)
      exact keep_main28 S N w (by omega) hN0 hN1 h1 h2 hcv
    · exact keep_part28 s x N w (by omega) (by omega) h1 h2 hN0 hN1 hcv h3
  · by_cases hs : s < 0 ∨ 1073741824 < s
    · exact keep_size48 s x w hs
    cases h1 : (FloatKind.f64.format.order x 4607182418800017408 == some .gt || FloatKind.f64.format.order x 4607182418800017408 == some .eq)
    · exact keep_low48 s x w (by omega) (by omega) h1
    cases h2 : (FloatKind.f64.format.order x 4742290407621132288 == some .lt || FloatKind.f64.format.order x 4742290407621132288 == some .eq)
    · exact keep_high48 s x w (by omega) (by omega) h1 h2
    obtain ⟨N, hN0, hN1, hcv, hw⟩ := avg_cases x hx (by have := h1; rw [f64d] at this; simpa using this) (by have := h2; rw [f64d] at this; simpa using this)
    cases h3 : (FloatKind.f64.format.order x (W (16 * N)) != some .eq)
    · have hx' := hw (by have := h3; rw [f64d] at this; simpa using this)
      subst hx'
      obtain ⟨S, rfl⟩ := Int.eq_ofNat_of_zero_le (show 0 ≤ s by omega)
      exact keep_main48 S N w (by omega) hN0 hN1 h1 h2 hcv
    · exact keep_part48 s x N w (by omega) (by omega) h1 h2 hN0 hN1 hcv h3
end Go.Proofs.Qxb6613763a
