/-
  zzAt256 where the 32 bytes are there: true.
-/
import Derived.Test.Qxb6613120aEnc2
namespace Go.Proofs.Qxb6613120a
open Go.RowKit

theorem arr_get (vs : List Int) (j : Nat) (hj : j < vs.length) : (arr vs)[j]? = some (.int .u8 (vs.getD j 0)) := by
  simp [arr, hj]

set_option maxHeartbeats 1000000 in
theorem at26 (r o n c off : Nat) (x : Int) (hx : x = (off : Int)) (vs : List Int) (w : World) (hr : r < w.heap.size) (hvs : vs.length = 32) (hoff : off + 32 ≤ n) (hn : n ≤ 1099511627776)
    (hc : ∀ j, j < 32 → w.cell? ⟨r, o + (off + j), none⟩ = some (.int .u8 (vs.getD j 0))) :
    Calls Try.prog 26 #[.slice (some ⟨r, o, none⟩) n c, .int .i64 x, .agg (arr vs)] w fun e w' => e = .returned (.bool true) ∧ ∃ q, w' = (w.alloc (.cells (arr vs) 45)).drewN q := by
  subst hx
  have hV : (arr vs).size = 32 := by simp [arr, hvs]
  go_enter Try.func26, Try.ntmps26
  go_wp2
  go_loopw [7] (fun i wr => ∃ k q : Nat, k ≤ 32 ∧ i = .int .i64 k ∧ wr = (w.alloc (.cells (arr vs) 45)).drewN q) (fun i _ => 32 - (intOf i).toNat)
  case atStart => exact ⟨0, 0, Nat.zero_le _, rfl, rfl⟩
  case round =>
    obtain ⟨k, q, hk, rfl, rfl⟩ := hrel
    by_cases hlt : k < 32
    · have hc1 := hc k hlt
      have hc2 : (w.alloc (.cells (arr vs) 45)).cell? ⟨w.heap.size, k, none⟩ = some (.int .u8 (vs.getD k 0)) := by rw [World.cell?_alloc_new]; exact arr_get vs k (by omega)
      have hi : (k : Int) < 32 := by omega
      have hi2 : (off : Int) + (k : Int) < (n : Int) := by omega
      go_wp2
      go_quiet (fail)
      go_wp2
      go_roundw
      case rel => exact ⟨k + 1, q + nq, by omega, by go_num, by simp⟩
      case measure => simp [intOf]; omega
    · go_wp2
      go_ret
      exact ⟨rfl, q, rfl⟩
end Go.Proofs.Qxb6613120a
