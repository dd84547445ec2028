/-
  The copying helpers (zzClone, zzCloneI32, zzCloneI64): each answers nil at nil; else a new array that holds the same numbers.
-/
import Derived.Test.Qxb6613120aRows
import Derived.WalkKit
import Derived.WalkSpells
import Derived.Deep.OwnRows
import Derived.Deep.QuietTactic
import Derived.BigQuiet
namespace Go.Proofs.Qxb6613120a
open Go.RowKit

theorem info5 : (Try.prog.info? 5).map (fun i => (i.zero, i.size, i.bytes)) = some (some (.int .u8 0), 1, 1) := by kernel_rfl
theorem info21 : (Try.prog.info? 21).map (fun i => (i.zero, i.size, i.bytes)) = some (some (.int .i32 0), 1, 4) := by kernel_rfl
theorem info2 : (Try.prog.info? 2).map (fun i => (i.zero, i.size, i.bytes)) = some (some (.int .i64 0), 1, 8) := by kernel_rfl

/-- What the copying loop's new array holds behind k rounds: the first k numbers, zeros behind them. -/
def cl (kd : IntKind) (zs : List Int) (n k : Nat) : Array Value := ((zs.take k).map (Value.int kd) ++ List.replicate (n - k) (Value.int kd 0)).toArray

theorem cl_zero (kd : IntKind) (zs : List Int) (n : Nat) : madeCells #[Value.int kd 0] n = cl kd zs n 0 := by
  apply Array.ext
  · simp [size_madeCells, cl]
  · intro i h1 h2
    simp [madeCells, cl, Nat.mod_one]

theorem cl_size (kd : IntKind) (zs : List Int) (n k : Nat) (hk : k ≤ n) (hz : n ≤ zs.length) : (cl kd zs n k).size = n := by
  simp [cl]; omega

theorem cl_step (kd : IntKind) (zs : List Int) (n k : Nat) (hk : k < n) (hz : n ≤ zs.length) : (cl kd zs n k).setIfInBounds k (.int kd (zs[k]?.getD 0)) = cl kd zs n (k + 1) := by
  have e : n - k = (n - (k + 1)) + 1 := by omega
  have hk' : k < zs.length := by omega
  unfold cl
  rw [List.setIfInBounds_toArray, List.set_append_right _ _ (by simp; omega)]
  congr 1
  rw [List.take_succ_eq_append_getElem hk', e, List.replicate_succ]
  have e2 : k - (List.map (Value.int kd) (List.take k zs)).length = 0 := by simp; omega
  rw [e2]
  simp only [List.set_cons_zero, List.map_append, List.map_cons, List.map_nil, List.append_assoc, List.cons_append, List.nil_append, List.getElem?_eq_getElem hk', Option.getD_some]

/-- A cell of the copied array. -/
theorem cl_get (kd : IntKind) (zs : List Int) (n i : Nat) (hi : i < n) (hz : n ≤ zs.length) : (cl kd zs n n)[i]? = some (.int kd (zs.getD i 0)) := by
  have hi' : i < zs.length := by omega
  simp [cl, hi, hi']

theorem clone9_nil (w : World) :
    Calls Try.prog 9 #[.slice none 0 0] w fun e w' => e = .returned (.slice none 0 0) ∧ w = w' := by
  have he := fun wx => Lib.run_eql_slice_nil (P := Try.prog) wx 22 5 none 0 0 0 0 Try.underlying22
  go_enter Try.func9, Try.ntmps9
  go_wp2
  go_ret
  exact ⟨rfl, rfl⟩

theorem clone9_empty (x : Addr) (c : Nat) (w : World) :
    Calls Try.prog 9 #[.slice (some x) 0 c] w fun e w' => e = .returned (.slice (some ⟨w.heap.size, 0, none⟩) 0 0) ∧ w' = w.alloc (.cells (cl .u8 [] 0 0) 5) := by
  have he := fun wx => Lib.run_eql_slice_nil (P := Try.prog) wx 22 5 (some x) 0 c 0 0 Try.underlying22
  have hm := run_make_row' (P := Try.prog) 22 5 (.int .u8 0) 1 Try.underlying22 info5 rfl .i64 .i64 0 (by omega) (by omega) w
  rw [cl_zero .u8 []] at hm
  simp only [Int.natCast_zero] at hm
  go_enter Try.func9, Try.ntmps9
  go_wp2
  refine wp_loop_rounds 1 ?_
  rw [rounds_succ]
  go_wp2
  go_ret
  exact ⟨rfl, rfl⟩

set_option maxHeartbeats 400000 in
theorem clone9 (b off n c : Nat) (zs : List Int) (w : World) (hn : n ≤ 1048576) (hz : n ≤ zs.length) (hb : b < w.heap.size)
    (hc : ∀ i, i < n → w.cell? ⟨b, off + i, none⟩ = some (.int .u8 (zs.getD i 0))) :
    Calls Try.prog 9 #[.slice (some ⟨b, off, none⟩) n c] w fun e w' => e = .returned (.slice (some ⟨w.heap.size, 0, none⟩) n n) ∧ w' = w.alloc (.cells (cl .u8 zs n n) 5) := by
  have he := fun wx => Lib.run_eql_slice_nil (P := Try.prog) wx 22 5 (some ⟨b, off, none⟩) n c 0 0 Try.underlying22
  have hm := run_make_row' (P := Try.prog) 22 5 (.int .u8 0) 1 Try.underlying22 info5 rfl .i64 .i64 n (by omega) (by omega) w
  rw [cl_zero .u8 zs] at hm
  go_enter Try.func9, Try.ntmps9
  go_wp2
  go_loopw [4] (fun i wr => ∃ k : Nat, k ≤ n ∧ i = .int .i64 k ∧ wr = w.alloc (.cells (cl .u8 zs n k) 5)) (fun i _ => n - (intOf i).toNat)
  case atStart => exact ⟨0, Nat.zero_le _, rfl, rfl⟩
  case round =>
    obtain ⟨k, hk, rfl, rfl⟩ := hrel
    by_cases hlt : k < n
    · have hck := hc k hlt
      have hst : Hid _ := cl_step .u8 zs n k hlt hz
      have hsz := cl_size .u8 zs n k hk hz
      go_wp2
      go_roundw
      case rel => exact ⟨k + 1, by omega, by go_num, by rw [hst.out]⟩
      case measure => simp [intOf]; omega
    · have hkn : k = n := by omega
      subst hkn
      go_wp2
      go_ret
      exact ⟨rfl, rfl⟩

theorem clone14_nil (w : World) :
    Calls Try.prog 14 #[.slice none 0 0] w fun e w' => e = .returned (.slice none 0 0) ∧ w = w' := by
  have he := fun wx => Lib.run_eql_slice_nil (P := Try.prog) wx 30 21 none 0 0 0 0 Try.underlying30
  go_enter Try.func14, Try.ntmps14
  go_wp2
  go_ret
  exact ⟨rfl, rfl⟩

theorem clone14_empty (x : Addr) (c : Nat) (w : World) :
    Calls Try.prog 14 #[.slice (some x) 0 c] w fun e w' => e = .returned (.slice (some ⟨w.heap.size, 0, none⟩) 0 0) ∧ w' = w.alloc (.cells (cl .i32 [] 0 0) 21) := by
  have he := fun wx => Lib.run_eql_slice_nil (P := Try.prog) wx 30 21 (some x) 0 c 0 0 Try.underlying30
  have hm := run_make_row' (P := Try.prog) 30 21 (.int .i32 0) 4 Try.underlying30 info21 rfl .i64 .i64 0 (by omega) (by omega) w
  rw [cl_zero .i32 []] at hm
  simp only [Int.natCast_zero] at hm
  go_enter Try.func14, Try.ntmps14
  go_wp2
  refine wp_loop_rounds 1 ?_
  rw [rounds_succ]
  go_wp2
  go_ret
  exact ⟨rfl, rfl⟩

set_option maxHeartbeats 400000 in
theorem clone14 (b off n c : Nat) (zs : List Int) (w : World) (hn : n ≤ 1048576) (hz : n ≤ zs.length) (hb : b < w.heap.size)
    (hc : ∀ i, i < n → w.cell? ⟨b, off + i, none⟩ = some (.int .i32 (zs.getD i 0))) :
    Calls Try.prog 14 #[.slice (some ⟨b, off, none⟩) n c] w fun e w' => e = .returned (.slice (some ⟨w.heap.size, 0, none⟩) n n) ∧ w' = w.alloc (.cells (cl .i32 zs n n) 21) := by
  have he := fun wx => Lib.run_eql_slice_nil (P := Try.prog) wx 30 21 (some ⟨b, off, none⟩) n c 0 0 Try.underlying30
  have hm := run_make_row' (P := Try.prog) 30 21 (.int .i32 0) 4 Try.underlying30 info21 rfl .i64 .i64 n (by omega) (by omega) w
  rw [cl_zero .i32 zs] at hm
  go_enter Try.func14, Try.ntmps14
  go_wp2
  go_loopw [4] (fun i wr => ∃ k : Nat, k ≤ n ∧ i = .int .i64 k ∧ wr = w.alloc (.cells (cl .i32 zs n k) 21)) (fun i _ => n - (intOf i).toNat)
  case atStart => exact ⟨0, Nat.zero_le _, rfl, rfl⟩
  case round =>
    obtain ⟨k, hk, rfl, rfl⟩ := hrel
    by_cases hlt : k < n
    · have hck := hc k hlt
      have hst : Hid _ := cl_step .i32 zs n k hlt hz
      have hsz := cl_size .i32 zs n k hk hz
      go_wp2
      go_roundw
      case rel => exact ⟨k + 1, by omega, by go_num, by rw [hst.out]⟩
      case measure => simp [intOf]; omega
    · have hkn : k = n := by omega
      subst hkn
      go_wp2
      go_ret
      exact ⟨rfl, rfl⟩

theorem clone22_nil (w : World) :
    Calls Try.prog 22 #[.slice none 0 0] w fun e w' => e = .returned (.slice none 0 0) ∧ w = w' := by
  have he := fun wx => Lib.run_eql_slice_nil (P := Try.prog) wx 44 2 none 0 0 0 0 Try.underlying44
  go_enter Try.func22, Try.ntmps22
  go_wp2
  go_ret
  exact ⟨rfl, rfl⟩

theorem clone22_empty (x : Addr) (c : Nat) (w : World) :
    Calls Try.prog 22 #[.slice (some x) 0 c] w fun e w' => e = .returned (.slice (some ⟨w.heap.size, 0, none⟩) 0 0) ∧ w' = w.alloc (.cells (cl .i64 [] 0 0) 2) := by
  have he := fun wx => Lib.run_eql_slice_nil (P := Try.prog) wx 44 2 (some x) 0 c 0 0 Try.underlying44
  have hm := run_make_row' (P := Try.prog) 44 2 (.int .i64 0) 8 Try.underlying44 info2 rfl .i64 .i64 0 (by omega) (by omega) w
  rw [cl_zero .i64 []] at hm
  simp only [Int.natCast_zero] at hm
  go_enter Try.func22, Try.ntmps22
  go_wp2
  refine wp_loop_rounds 1 ?_
  rw [rounds_succ]
  go_wp2
  go_ret
  exact ⟨rfl, rfl⟩

set_option maxHeartbeats 400000 in
theorem clone22 (b off n c : Nat) (zs : List Int) (w : World) (hn : n ≤ 1048576) (hz : n ≤ zs.length) (hb : b < w.heap.size)
    (hc : ∀ i, i < n → w.cell? ⟨b, off + i, none⟩ = some (.int .i64 (zs.getD i 0))) :
    Calls Try.prog 22 #[.slice (some ⟨b, off, none⟩) n c] w fun e w' => e = .returned (.slice (some ⟨w.heap.size, 0, none⟩) n n) ∧ w' = w.alloc (.cells (cl .i64 zs n n) 2) := by
  have he := fun wx => Lib.run_eql_slice_nil (P := Try.prog) wx 44 2 (some ⟨b, off, none⟩) n c 0 0 Try.underlying44
  have hm := run_make_row' (P := Try.prog) 44 2 (.int .i64 0) 8 Try.underlying44 info2 rfl .i64 .i64 n (by omega) (by omega) w
  rw [cl_zero .i64 zs] at hm
  go_enter Try.func22, Try.ntmps22
  go_wp2
  go_loopw [4] (fun i wr => ∃ k : Nat, k ≤ n ∧ i = .int .i64 k ∧ wr = w.alloc (.cells (cl .i64 zs n k) 2)) (fun i _ => n - (intOf i).toNat)
  case atStart => exact ⟨0, Nat.zero_le _, rfl, rfl⟩
  case round =>
    obtain ⟨k, hk, rfl, rfl⟩ := hrel
    by_cases hlt : k < n
    · have hck := hc k hlt
      have hst : Hid _ := cl_step .i64 zs n k hlt hz
      have hsz := cl_size .i64 zs n k hk hz
      go_wp2
      go_roundw
      case rel => exact ⟨k + 1, by omega, by go_num, by rw [hst.out]⟩
      case measure => simp [intOf]; omega
    · have hkn : k = n := by omega
      subst hkn
      go_wp2
      go_ret
      exact ⟨rfl, rfl⟩
end Go.Proofs.Qxb6613120a
