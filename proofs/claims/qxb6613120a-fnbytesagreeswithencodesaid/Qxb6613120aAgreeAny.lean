/-
  FnBytesAgreesWithEncode at every input.
-/
import Derived.Test.Qxb6613120aAgreeWalk
import Derived.Test.Qxb6613120aRow
import Derived.ProofKit
import Derived.OpenShut
namespace Go.Proofs.Qxb6613120a
open Go.ChangeShapes Go.WideShapes Go.ChangeAt Go.RowKit

theorem agree_any (a0 : Int) (a1 : Option Addr) (len1 cap1 : Nat) (z1 : List Int) (w : World) (w0 : (Lit.int .u32 a0).wf = true) (w1 : IsRow .i64 w a1 len1 cap1 z1) :
    Calls Try.prog 6 #[.int .u32 a0, .slice a1 len1 cap1] w fun e w' => e = .returned (.bool true) ∧ Below w.heap.size w w' := by
  have hid := bounds_u32 w0
  have hlen : len1 ≤ 9223372036854775807 := by
    rcases w1 with ⟨_, h, _⟩ | ⟨_, _, h1, h2, _⟩
    · omega
    · unfold maxLen at h2; omega
  by_cases hl : 131072 < len1
  · exact agree_long _ _ _ _ _ hlen hl
  rcases w1 with ⟨rfl, rfl, rfl, rfl⟩ | ⟨x, rfl, hlc, hm, hz, hcell, _⟩
  · exact agree_core a0 hid.1 (by omega) none none 0 0 0 [] w _ (by omega) rfl (clone22_nil _) (Below.refl _ _) (.inl rfl)
  · have hW0 : (w.alloc (.cells #[.slice (some x) len1 cap1] 44)).heap.size = w.heap.size + 1 := by simp
    by_cases h0 : len1 = 0
    · subst h0
      exact agree_core a0 hid.1 (by omega) (some x) _ 0 cap1 0 [] w _ (by omega) rfl ((clone22_empty x cap1 _).mono fun e w' h => ⟨h.1, h.2.symm⟩) ((Below.refl _ _).alloc (by omega) _) (.inl rfl)
    · obtain ⟨b, off, spot⟩ := x
      have hspot : spot = none := by simpa [Addr.add] using World.cell?_spot (hcell 0 (by omega))
      subst hspot
      have hc0 : ∀ i, i < len1 → w.cell? ⟨b, off + i, none⟩ = some (.int .i64 (z1.getD i 0)) := fun i hi => by rw [← add_plain]; exact hcell i (by omega)
      have hb : b < w.heap.size := World.block_lt_of_cell? _ _ (hc0 0 (by omega))
      have hz1 : len1 ≤ z1.length := by omega
      refine agree_core a0 hid.1 (by omega) (some ⟨b, off, none⟩) (some ⟨w.heap.size + 1, 0, none⟩) len1 cap1 len1 (z1.take len1) w _ (by omega) (by simp; omega)
        ((clone22 b off len1 cap1 z1 _ (by omega) hz1 (by rw [hW0]; omega) fun i hi => (World.cell?_alloc_lt _ _ _ hb).trans (hc0 i hi)).mono fun e w' h => ⟨by rw [h.1, hW0], h.2.symm⟩)
        ((Below.refl _ _).alloc (by omega) _) (.inr ⟨w.heap.size + 1, 0, rfl, by simp, fun i hi => ?_⟩)
      refine (World.cell?_of_block (Below.heap_setCell _ _ _ _ (by simp))).trans ?_
      rw [Nat.zero_add, World.cell?_alloc2_new, cl_get _ _ _ _ hi hz1]
      simp [hi]
end Go.Proofs.Qxb6613120a
