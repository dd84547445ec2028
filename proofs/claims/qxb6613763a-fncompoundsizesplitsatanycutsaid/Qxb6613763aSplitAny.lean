/-
  FnCompoundSizeSplitsAtAnyCut at every input.
-/
import Derived.Test.Qxb6613763aSplit
import Derived.ProofKit
import Derived.OpenShut
namespace Go.Proofs.Qxb6613763a
open Go.ChangeShapes Go.WideShapes Go.ChangeAt Go.RowKit

/-- What the walk is told of a slice of integers that came in: it is nil; or it leads to a row of 'cap' cells, the numbers 'zs' (the first 'len' are its elements, the rest its spare room), each fitting its kind. -/
def IsRow (k : IntKind) (w : World) (a : Option Addr) (len cap : Nat) (zs : List Int) : Prop :=
  (a = none ∧ len = 0 ∧ cap = 0 ∧ zs = []) ∨
  ∃ x, a = some x ∧ len ≤ cap ∧ cap ≤ maxLen ∧ zs.length = cap ∧ (∀ i, i < zs.length → w.cell? (x.add i) = some (.int k (zs.getD i 0))) ∧ ∀ n ∈ zs, (Lit.int k n).wf = true

/-- The packets that packetsOf makes, whole and cut. -/
theorem pk_cut (a0 : Option Addr) (n c0 cut : Nat) (ls : List Int) (w : World) (hs : Sl w a0 n ls) (hn : n ≤ 4096) (hcut : cut ≤ n) :
    Calls Try.prog 9 #[.slice a0 n c0] w fun e w' => e = .returned (.slice (some ⟨w.heap.size, 0, none⟩) n n) ∧ Below w.heap.size w w' ∧ w.heap.size < w'.heap.size ∧
      Ps w' (some ⟨w.heap.size, 0, none⟩) n ls ∧ Ps w' (some ⟨w.heap.size, 0, none⟩) cut (ls.take cut) ∧ Ps w' (if n = cut then some ⟨w.heap.size, 0, none⟩ else (some (⟨w.heap.size, 0, none⟩ : Addr)).map (·.add (cut * 47))) (n - cut) (ls.drop cut) := by
  refine (pk9 a0 n c0 ls w hs hn).mono ?_
  rintro e w' ⟨rfl, hB, hz, hc⟩
  refine ⟨rfl, hB, hz, .inr ⟨_, 0, rfl, hz, fun i hi => ?_⟩, .inr ⟨_, 0, rfl, hz, fun i hi => ?_⟩, ?_⟩
  · rw [Nat.zero_add]; exact hc i hi
  · rw [Nat.zero_add, hc i (by omega)]
    simp [hi]
  · by_cases he : n = cut
    · exact .inl (by omega)
    · rw [if_neg he, Option.map_some, add_plain, Nat.zero_add]
      refine .inr ⟨_, _, rfl, hz, fun i hi => ?_⟩
      rw [show cut * 47 + i * 47 + 3 = (cut + i) * 47 + 3 by omega, hc (cut + i) (by omega)]
      simp

theorem split_any (a0 : Option Addr) (len0 cap0 : Nat) (z0 : List Int) (a1 : Int) (a2 : Bool) (w : World) (w0 : IsRow .u16 w a0 len0 cap0 z0) :
    Calls Try.prog 3 #[.slice a0 len0 cap0, .int .i64 a1, .bool a2] w fun e w' => e = .returned (.bool true) ∧ Below w.heap.size w w' := by
  have hlen : len0 ≤ 9223372036854775807 := by
    rcases w0 with ⟨_, h, _⟩ | ⟨_, _, h1, h2, _⟩
    · omega
    · unfold maxLen at h2; omega
  by_cases hl : 4096 < len0
  · exact split_long _ _ _ _ _ _ hlen hl
  by_cases hc : a1 < 0 ∨ (len0 : Int) < a1
  · exact split_out _ _ _ _ _ _ (by omega) hc
  obtain ⟨cut, rfl⟩ := Int.eq_ofNat_of_zero_le (show 0 ≤ a1 by omega)
  have hcut : cut ≤ len0 := by omega
  obtain ⟨ls, hs, hln, hb⟩ : ∃ ls, Sl w a0 len0 ls ∧ ls.length = len0 ∧ ∀ x ∈ ls, 0 ≤ x ∧ x ≤ 65535 := by
    rcases w0 with ⟨rfl, rfl, rfl, rfl⟩ | ⟨x, rfl, hlc, hm, hz, hcell, hwf⟩
    · exact ⟨[], .inl rfl, rfl, by simp⟩
    · refine ⟨z0.take len0, ?_, by simp; omega, fun y hy => bounds_u16 (hwf y (List.mem_of_mem_take hy))⟩
      by_cases h0 : len0 = 0
      · exact .inl h0
      · obtain ⟨b, off, spot⟩ := x
        have hspot : spot = none := by simpa [Addr.add] using World.cell?_spot (hcell 0 (by omega))
        subst hspot
        have hc0 : ∀ i, i < len0 → w.cell? ⟨b, off + i, none⟩ = some (.int .u16 (z0.getD i 0)) := fun i hi => by rw [← add_plain]; exact hcell i (by omega)
        refine .inr ⟨b, off, rfl, World.block_lt_of_cell? _ _ (hc0 0 (by omega)), fun i hi => ?_⟩
        rw [hc0 i hi]
        simp [hi]
  exact split_core a0 _ _ len0 cap0 cut a2 ls w (by omega) hcut hln hb hs (pk_cut a0 len0 cap0 cut ls w hs (by omega) hcut) (slice_head _ _ _ _ hcut) (slice_rear _ _ _ _ hcut)
end Go.Proofs.Qxb6613763a
