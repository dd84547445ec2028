/-
  zzAt32, zzAt64 where the bytes are there: true.
-/
import Derived.Test.Qxb6613120aEnc
namespace Go.Proofs.Qxb6613120a
open Go.RowKit

set_option maxHeartbeats 1000000 in
theorem at20 (r o n c off : Nat) (f x : Int) (hf : f = (off : Int)) (w : World) (hx0 : 0 ≤ x) (hx1 : x < 4294967296) (hoff : off + 4 ≤ n) (hn : n ≤ 1099511627776)
    (hc : ∀ j, j < 4 → w.cell? ⟨r, o + (off + j), none⟩ = some (.int .u8 ((le4 x).getD j 0))) :
    Calls Try.prog 20 #[.slice (some ⟨r, o, none⟩) n c, .int .i64 f, .int .u32 x] w fun e w' => e = .returned (.bool true) ∧ w = w' := by
  subst hf
  have HC := hid_mk hc
  clear hc
  go_enter Try.func20, Try.ntmps20
  go_wp2
  go_loop [7] (fun i => ∃ k : Nat, k ≤ 4 ∧ i = .int .i64 k) (fun i => 4 - (intOf i).toNat)
  case atStart => exact ⟨0, Nat.zero_le _, rfl⟩
  case round =>
    obtain ⟨k, hk, rfl⟩ := hrel
    rcases (show k = 0 ∨ k = 1 ∨ k = 2 ∨ k = 3 ∨ k = 4 by omega) with rfl | rfl | rfl | rfl | rfl
    · have hc1 := HC.out 0 (by omega)
      simp [le4] at hc1
      go_wp2
      go_round
      case rel => exact ⟨1, by omega, rfl⟩
      case measure => simp [intOf]
    · have hc1 := HC.out 1 (by omega)
      simp [le4] at hc1
      go_wp2
      go_round
      case rel => exact ⟨2, by omega, rfl⟩
      case measure => simp [intOf]
    · have hc1 := HC.out 2 (by omega)
      simp [le4] at hc1
      go_wp2
      go_round
      case rel => exact ⟨3, by omega, rfl⟩
      case measure => simp [intOf]
    · have hc1 := HC.out 3 (by omega)
      simp [le4] at hc1
      go_wp2
      go_round
      case rel => exact ⟨4, by omega, rfl⟩
      case measure => simp [intOf]
    · go_wp2
      go_ret
      exact ⟨rfl, rfl⟩

set_option maxHeartbeats 1000000 in
theorem at24 (r o n c off : Nat) (f x : Int) (hf : f = (off : Int)) (w : World) (hx0 : 0 ≤ x) (hx1 : x < 18446744073709551616) (hoff : off + 8 ≤ n) (hn : n ≤ 1099511627776)
    (hc : ∀ j, j < 8 → w.cell? ⟨r, o + (off + j), none⟩ = some (.int .u8 ((le8 x).getD j 0))) :
    Calls Try.prog 24 #[.slice (some ⟨r, o, none⟩) n c, .int .i64 f, .int .u64 x] w fun e w' => e = .returned (.bool true) ∧ w = w' := by
  subst hf
  have HC := hid_mk hc
  clear hc
  go_enter Try.func24, Try.ntmps24
  go_wp2
  go_loop [7] (fun i => ∃ k : Nat, k ≤ 8 ∧ i = .int .i64 k) (fun i => 8 - (intOf i).toNat)
  case atStart => exact ⟨0, Nat.zero_le _, rfl⟩
  case round =>
    obtain ⟨k, hk, rfl⟩ := hrel
    rcases (show k = 0 ∨ k = 1 ∨ k = 2 ∨ k = 3 ∨ k = 4 ∨ k = 5 ∨ k = 6 ∨ k = 7 ∨ k = 8 by omega) with rfl | rfl | rfl | rfl | rfl | rfl | rfl | rfl | rfl
    · have hc1 := HC.out 0 (by omega)
      simp [le8] at hc1
      go_wp2
      go_round
      case rel => exact ⟨1, by omega, rfl⟩
      case measure => simp [intOf]
    · have hc1 := HC.out 1 (by omega)
      simp [le8] at hc1
      go_wp2
      go_round
      case rel => exact ⟨2, by omega, rfl⟩
      case measure => simp [intOf]
    · have hc1 := HC.out 2 (by omega)
      simp [le8] at hc1
      go_wp2
      go_round
      case rel => exact ⟨3, by omega, rfl⟩
      case measure => simp [intOf]
    · have hc1 := HC.out 3 (by omega)
      simp [le8] at hc1
      go_wp2
      go_round
      case rel => exact ⟨4, by omega, rfl⟩
      case measure => simp [intOf]
    · have hc1 := HC.out 4 (by omega)
      simp [le8] at hc1
      go_wp2
      go_round
      case rel => exact ⟨5, by omega, rfl⟩
      case measure => simp [intOf]
    · have hc1 := HC.out 5 (by omega)
      simp [le8] at hc1
      go_wp2
      go_round
      case rel => exact ⟨6, by omega, rfl⟩
      case measure => simp [intOf]
    · have hc1 := HC.out 6 (by omega)
      simp [le8] at hc1
      go_wp2
      go_round
      case rel => exact ⟨7, by omega, rfl⟩
      case measure => simp [intOf]
    · have hc1 := HC.out 7 (by omega)
      simp [le8] at hc1
      go_wp2
      go_round
      case rel => exact ⟨8, by omega, rfl⟩
      case measure => simp [intOf]
    · go_wp2
      go_ret
      exact ⟨rfl, rfl⟩
end Go.Proofs.Qxb6613120a
