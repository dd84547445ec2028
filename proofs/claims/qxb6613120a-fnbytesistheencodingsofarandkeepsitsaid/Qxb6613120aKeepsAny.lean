/-
  FnBytesIsTheEncodingSoFarAndKeepsIt at every input.
-/
import Derived.Test.Qxb6613120aKeepsCore
import Derived.Test.Qxb6613120aRow
import Derived.ProofKit
import Derived.OpenShut
namespace Go.Proofs.Qxb6613120a
open Go.ChangeShapes Go.WideShapes Go.ChangeAt Go.RowKit

theorem keeps_any (a0 : Option Addr) (len0 cap0 : Nat) (z0 vs : List Int) (w : World) (w0 : IsRow .i64 w a0 len0 cap0 z0) (hvs : vs.length = 32) :
    Calls Try.prog 5 #[.slice a0 len0 cap0, .agg (arr vs)] w fun e w' => e = .returned (.bool true) ∧ Below w.heap.size w w' := by
  have hlen : len0 ≤ 9223372036854775807 := by
    rcases w0 with ⟨_, h, _⟩ | ⟨_, _, h1, h2, _⟩
    · omega
    · unfold maxLen at h2; omega
  by_cases hl : 131072 < len0
  · exact keeps_long _ _ _ _ _ hvs hlen hl
  have hW0 : ((w.alloc (.cells (arr vs) 45)).alloc (.cells (arr vs) 45)).heap.size = w.heap.size + 2 := by simp
  rcases w0 with ⟨rfl, rfl, rfl, rfl⟩ | ⟨x, rfl, hlc, hm, hz, hcell, _⟩
  · exact keeps_core none none 0 0 0 [] vs w _ (by omega) rfl hvs (clone22_nil _) (Below.refl _ _) (.inl rfl)
  · by_cases h0 : len0 = 0
    · subst h0
      exact keeps_core (some x) _ 0 cap0 0 [] vs w _ (by omega) rfl hvs ((clone22_empty x cap0 _).mono fun e w' h => ⟨h.1, h.2.symm⟩) ((Below.refl _ _).alloc (by omega) _) (.inl rfl)
    · obtain ⟨b, off, spot⟩ := x
      have hspot : spot = none := by simpa [Addr.add] using World.cell?_spot (hcell 0 (by omega))
      subst hspot
      have hc0 : ∀ i, i < len0 → w.cell? ⟨b, off + i, none⟩ = some (.int .i64 (z0.getD i 0)) := fun i hi => by rw [← add_plain]; exact hcell i (by omega)
      have hb : b < w.heap.size := World.block_lt_of_cell? _ _ (hc0 0 (by omega))
      have hz1 : len0 ≤ z0.length := by omega
      refine keeps_core (some ⟨b, off, none⟩) _ len0 cap0 len0 (z0.take len0) vs w _ (by omega) (by simp; omega) hvs
        ((clone22 b off len0 cap0 z0 _ (by omega) hz1 (by rw [hW0]; omega) fun i hi => (World.cell?_alloc_lt _ _ _ (by simp; omega)).trans ((World.cell?_alloc_lt _ _ _ hb).trans (hc0 i hi))).mono fun e w' h => ⟨h.1, h.2.symm⟩)
        ((Below.refl _ _).alloc (by omega) _) (.inr ⟨_, 0, rfl, by simp, fun i hi => ?_⟩)
      rw [Nat.zero_add, World.cell?_alloc_new, cl_get _ _ _ _ hi hz1]
      simp [hi]
end Go.Proofs.Qxb6613120a
