/-
  zzWord: the k-th eight bytes as a number.
-/
import Derived.Test.Qxb6613120aAt256
namespace Go.Proofs.Qxb6613120a
open Go.RowKit

/-- The number that the highest m of the eight bytes from 8 k on spell. -/
def wd (vs : List Int) (k : Nat) : Nat → Int
  | 0 => 0
  | m + 1 => wd vs k m * 256 + vs.getD (8 * k + (7 - m)) 0

theorem wd_bd (vs : List Int) (k : Nat) (hby : ∀ j, 0 ≤ vs.getD j 0 ∧ vs.getD j 0 ≤ 255) : ∀ m, 0 ≤ wd vs k m ∧ wd vs k m < 256 ^ m
  | 0 => by simp [wd]
  | m + 1 => by
    have ih := wd_bd vs k hby m
    have hb := hby (8 * k + (7 - m))
    simp only [wd]
    rw [Int.pow_succ]
    omega

theorem or8 (u b : Int) (hu : 0 ≤ u) (hu' : u < 72057594037927936) (hb : 0 ≤ b) (hb' : b ≤ 255) : bits BinOp.or IntKind.u64 (IntKind.u64.wrap (u * 256)) (IntKind.u64.wrap b) = u * 256 + b := by
  have hw : ∀ n : Int, 0 ≤ n → n < 2 ^ 64 → IntKind.u64.wrap n = n := fun n h0 h1 => by
    have e : IntKind.u64.wrap n = n % 18446744073709551616 := by simp [IntKind.wrap, IntKind.bits, IntKind.signed]
    rw [e]; omega
  rw [hw (u * 256) (by omega) (by omega), hw b (by omega) (by omega)]
  exact bits_join .u64 64 (by decide) hw 8 (u * 256) b (by omega) (by omega) (by omega) (by omega) (by omega) (by omega)

theorem wd_step (vs : List Int) (k m : Nat) (hm : m < 8) (hby : ∀ j, 0 ≤ vs.getD j 0 ∧ vs.getD j 0 ≤ 255) : bits BinOp.or IntKind.u64 (IntKind.u64.wrap (wd vs k m * 256)) (IntKind.u64.wrap (vs[8 * k + (7 - m)]?.getD 0)) = wd vs k (m + 1) := by
  have h := wd_bd vs k hby m
  have hb := hby (8 * k + (7 - m))
  have hp : (256 : Int) ^ m ≤ 256 ^ 7 := by
    rcases (show m = 0 ∨ m = 1 ∨ m = 2 ∨ m = 3 ∨ m = 4 ∨ m = 5 ∨ m = 6 ∨ m = 7 by omega) with rfl | rfl | rfl | rfl | rfl | rfl | rfl | rfl <;> decide
  have e : vs[8 * k + (7 - m)]?.getD 0 = vs.getD (8 * k + (7 - m)) 0 := by simp
  rw [e, or8 _ _ h.1 (by have : (256 : Int) ^ 7 = 72057594037927936 := by decide
                         omega) hb.1 hb.2]
  rfl

set_option maxHeartbeats 1000000 in
theorem word30 (vs : List Int) (k : Nat) (x : Int) (hx : x = (k : Int)) (hk : k < 4) (w : World) (hvs : vs.length = 32) (hby : ∀ j, 0 ≤ vs.getD j 0 ∧ vs.getD j 0 ≤ 255) :
    Calls Try.prog 30 #[.agg (arr vs), .int .i64 x] w fun e w' => e = .returned (.int .u64 (wd vs k 8)) ∧ w' = w.alloc (.cells (arr vs) 45) := by
  subst hx
  have hV : (arr vs).size = 32 := by simp [arr, hvs]
  go_enter Try.func30, Try.ntmps30
  go_wp2
  go_loop [5, 6] (fun u i => ∃ m : Nat, m ≤ 8 ∧ i = .int .i64 (7 - (m : Int)) ∧ u = .int .u64 (wd vs k m)) (fun _ i => (intOf i + 1).toNat)
  case atStart => exact ⟨0, Nat.zero_le _, rfl, rfl⟩
  case round =>
    obtain ⟨m, hm, rfl, rfl⟩ := hrel
    by_cases hlt : m < 8
    · have hc2 : (w.alloc (.cells (arr vs) 45)).cell? ⟨w.heap.size, 8 * k + (7 - m), none⟩ = some (.int .u8 (vs.getD (8 * k + (7 - m)) 0)) := by rw [World.cell?_alloc_new]; exact arr_get vs _ (by omega)
      obtain ⟨u, hu⟩ : ∃ u, wd vs k m = u := ⟨_, rfl⟩
      go_wp2
      go_round
      case rel => exact ⟨m + 1, by omega, by go_num, by rw [← hu]; exact congrArg _ (wd_step vs k m hlt hby)⟩
      case measure => simp [intOf]; omega
    · have : m = 8 := by omega
      subst this
      go_wp2
      go_ret
      exact ⟨rfl, rfl⟩

/-- The word's eight bytes, the least first, are the eight bytes that it was read from. -/
theorem le8_wd (vs : List Int) (k : Nat) (hby : ∀ j, 0 ≤ vs.getD j 0 ∧ vs.getD j 0 ≤ 255) :
    le8 (wd vs k 8) = [vs.getD (8 * k) 0, vs.getD (8 * k + 1) 0, vs.getD (8 * k + 2) 0, vs.getD (8 * k + 3) 0, vs.getD (8 * k + 4) 0, vs.getD (8 * k + 5) 0, vs.getD (8 * k + 6) 0, vs.getD (8 * k + 7) 0] := by
  have h0 := hby (8 * k)
  have h1 := hby (8 * k + 1)
  have h2 := hby (8 * k + 2)
  have h3 := hby (8 * k + 3)
  have h4 := hby (8 * k + 4)
  have h5 := hby (8 * k + 5)
  have h6 := hby (8 * k + 6)
  have h7 := hby (8 * k + 7)
  simp only [wd, Nat.sub_zero, show 7 - 1 = 6 from rfl, show 7 - 2 = 5 from rfl, show 7 - 3 = 4 from rfl, show 7 - 4 = 3 from rfl, show 7 - 5 = 2 from rfl, show 7 - 6 = 1 from rfl, show 7 - 7 = 0 from rfl, Nat.add_zero, le8]
  generalize vs.getD (8 * k) 0 = a0 at *
  generalize vs.getD (8 * k + 1) 0 = a1 at *
  generalize vs.getD (8 * k + 2) 0 = a2 at *
  generalize vs.getD (8 * k + 3) 0 = a3 at *
  generalize vs.getD (8 * k + 4) 0 = a4 at *
  generalize vs.getD (8 * k + 5) 0 = a5 at *
  generalize vs.getD (8 * k + 6) 0 = a6 at *
  generalize vs.getD (8 * k + 7) 0 = a7 at *
  simp only [List.cons.injEq, and_true]
  refine ⟨?_, ?_, ?_, ?_, ?_, ?_, ?_, ?_⟩ <;> omega

theorem u64_i64 (x : Int) (h0 : 0 ≤ x) (h1 : x < 18446744073709551616) : IntKind.u64.wrap (IntKind.i64.wrap x) = x := by
  have e : ∀ n, IntKind.u64.wrap n = n % 18446744073709551616 := fun n => by simp [IntKind.wrap, IntKind.bits, IntKind.signed]
  rw [e]
  have e2 : IntKind.i64.wrap x = if 9223372036854775808 ≤ x % 18446744073709551616 then x % 18446744073709551616 - 18446744073709551616 else x % 18446744073709551616 := by
    simp [IntKind.wrap, IntKind.bits, IntKind.signed]
  rw [e2]
  split <;> omega
end Go.Proofs.Qxb6613120a
