/-
  packetsOf: a new array of packets; of packet i the Length, cell 47 i + 3, holds lengths[i].
-/
import Derived.Test.Qxb6613763aRows
import Derived.WalkKit
import Derived.WalkSpells
import Derived.Deep.OwnRows
import Derived.WalkSmall
namespace Go.Proofs.Qxb6613763a
open Go.RowKit

/-- The cells of a zero Packet. -/
def pz : Array Value := #[.bool false, .int .u8 0, .int .u8 0, .int .u16 0, .int .u8 0, .int .u32 0, .int .u64 0, .int .u32 0, .int .u32 0, .int .u32 0, .slice none 0 0, .slice none 0 0, .int .u32 0, .slice none 0 0, .slice none 0 0, .slice none 0 0, .slice none 0 0, .slice none 0 0, .int .u8 0, .int .u32 0, .int .u8 0, .int .u8 0, .int .u8 0, .int .u8 0, .slice none 0 0, .int .u8 0, .int .u32 0, .int .u32 0, .slice none 0 0, .slice none 0 0, .slice none 0 0, .int .u16 0, .int .u16 0, .int .i32 0, .int .u8 0, .slice none 0 0, .slice none 0 0, .int .u8 0, .int .u32 0, .int .u32 0, .slice none 0 0, .slice none 0 0, .slice none 0 0, .int .u8 0, .int .u32 0, .slice none 0 0, .slice none 0 0]
theorem pz_size : pz.size = 47 := rfl
theorem pz_len : pz[3]! = .int .u16 0 := rfl
theorem info79 : (Try.prog.info? 79).map (fun i => (i.zero, i.size, i.bytes)) = some (some (.agg pz), 47, 552) := by kernel_rfl

theorem hid_mk {p : Prop} (h : p) : Hid p := h

/-- A slice of n uint16s, the first n of zs (or it is empty). -/
def Sl (w : World) (a : Option Addr) (n : Nat) (zs : List Int) : Prop :=
  n = 0 ∨ ∃ b o, a = some ⟨b, o, none⟩ ∧ b < w.heap.size ∧ ∀ i, i < n → w.cell? ⟨b, o + i, none⟩ = some (.int .u16 (zs.getD i 0))

theorem made_at (n i : Nat) (hi : i < n) : (madeCells pz (n * 47))[i * 47 + 3]? = some (.int .u16 0) := by
  have h : i * 47 + 3 < n * 47 := by omega
  unfold madeCells
  rw [Array.getElem?_map, Array.getElem?_range, if_pos h]
  simp only [Option.map_some, Option.some.injEq]
  rw [pz_size, show (i * 47 + 3) % 47 = 3 by omega]
  exact pz_len

/-- Behind k rounds. -/
structure Pk (w wr : World) (n k : Nat) (zs : List Int) : Prop where
  below : Below w.heap.size w wr
  size : w.heap.size < wr.heap.size
  cells : ∀ i, i < n → wr.cell? ⟨w.heap.size, i * 47 + 3, none⟩ = some (.int .u16 (if i < k then zs.getD i 0 else 0))
  free : ∀ o, wr.frozen? ⟨w.heap.size, o, none⟩ = false

theorem Pk.start (w : World) (n : Nat) (zs : List Int) : Pk w (w.alloc (.cells (madeCells pz (n * 47)) 79)) n 0 zs where
  below := (Below.refl _ _).alloc (Nat.le_refl _) _
  size := by simp
  cells := fun i hi => by rw [World.cell?_alloc_new, made_at n i hi]; simp
  free := fun o => by simp

theorem Pk.next {w wr : World} {n k : Nat} {zs : List Int} (h : Pk w wr n k zs) (hk : k < n) : Pk w (wr.setCell ⟨w.heap.size, k * 47 + 3, none⟩ (.int .u16 (zs.getD k 0))) n (k + 1) zs where
  below := h.below.setCell (by simp) _
  size := by simpa [World.setCell] using h.size
  cells := fun i hi => by
    by_cases e : i = k
    · subst e
      rw [World.cell?_setCell_same _ _ _ (h.cells i hi), if_pos (by omega)]
    · have hne : (⟨w.heap.size, k * 47 + 3, none⟩ : Addr) ≠ ⟨w.heap.size, i * 47 + 3, none⟩ := fun he => by
        have := congrArg Addr.off he
        simp only at this
        omega
      rw [World.cell?_setCell_other _ _ _ _ hne, h.cells i hi]
      by_cases e2 : i < k
      · rw [if_pos e2, if_pos (by omega)]
      · rw [if_neg e2, if_neg (by omega)]
  free := fun o => by simpa using h.free o

set_option maxHeartbeats 1000000 in
theorem pk9 (a : Option Addr) (n c : Nat) (zs : List Int) (w : World) (hs : Sl w a n zs) (hn : n ≤ 4096) :
    Calls Try.prog 9 #[.slice a n c] w fun e w' => e = .returned (.slice (some ⟨w.heap.size, 0, none⟩) n n) ∧ Below w.heap.size w w' ∧ w.heap.size < w'.heap.size ∧
      ∀ i, i < n → w'.cell? ⟨w.heap.size, i * 47 + 3, none⟩ = some (.int .u16 (zs.getD i 0)) := by
  obtain ⟨i0, hi, hz0, hz1, hz2⟩ := info_parts info79
  have hm := run_make (P := Try.prog) w 24 79 i0 (.agg pz) Try.underlying24 hi hz0 .i64 .i64 n n (by omega) (by omega) (by rw [hz2]; omega) (by omega)
  simp only [Int.toNat_natCast, hz1] at hm
  have hcl : (Value.agg pz).cells = pz := rfl
  rw [hcl] at hm
  have HS := hid_mk hs
  clear hs hcl
  go_enter Try.func9, Try.ntmps9
  go_wp2
  go_loopw [4] (fun i wr => ∃ k : Nat, k ≤ n ∧ i = .int .i64 k ∧ Pk w wr n k zs) (fun i _ => n - (intOf i).toNat)
  case atStart => exact ⟨0, Nat.zero_le _, rfl, Pk.start w n zs⟩
  case round =>
    obtain ⟨k, hk, rfl, hP⟩ := hrel
    have HP := hid_mk hP
    have hz := hP.size
    clear hP
    by_cases hlt : k < n
    · rcases HS.out with h0 | ⟨b, o, ha, hbg, hc⟩
      · omega
      subst ha
      have hcr := (HP.out.below.cell (p := ⟨b, o + k, none⟩) hbg).trans (hc k hlt)
      have hi1 : (k : Int) < (n : Int) := by omega
      have hst := HP.out.cells k hlt
      have hfr := HP.out.free (k * 47 + 3)
      clear hc
      go_wp2
      go_roundw
      case rel => exact ⟨k + 1, by omega, by go_num, by have := HP.out.next hlt; simpa using this⟩
      case measure => simp [intOf]; omega
    · have hkn : n = k := by omega
      subst hkn
      go_wp2
      go_ret
      refine ⟨rfl, HP.out.below, HP.out.size, fun i hi => ?_⟩
      have := HP.out.cells i hi
      rwa [if_pos hi] at this
end Go.Proofs.Qxb6613763a
