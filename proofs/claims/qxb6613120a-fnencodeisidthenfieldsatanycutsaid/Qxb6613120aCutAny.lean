/-
  FnEncodeIsIDThenFieldsAtAnyCut at every input.
-/
import Derived.Test.Qxb6613120aCutWalk
import Derived.Test.Qxb6613120aRow
import Derived.ProofKit
import Derived.OpenShut
namespace Go.Proofs.Qxb6613120a
open Go.ChangeShapes Go.WideShapes Go.ChangeAt Go.RowKit

theorem slice_head (a : Option Addr) (n c cut : Nat) (hc : cut ≤ c) (w : World) :
    (Instr.slice 30 (.slice a n c) none (some (.int .i64 cut)) none).run Try.prog w = .ok (.slice a cut c) w := by
  obtain ⟨i0, hi, _, hz1, _⟩ := info_parts info21
  simp [Instr.slice, Instr.sliceBounds, Instr.sliceBound, asIntOf, run_underlying Try.underlying30, sizeOf, typeInfo, hi, go_sem]
  intro h
  omega
theorem slice_rear (a : Option Addr) (n c cut : Nat) (hcut : cut ≤ n) (w : World) :
    (Instr.slice 30 (.slice a n c) (some (.int .i64 cut)) none none).run Try.prog w = .ok (.slice (if c = cut then a else a.map (·.add cut)) (n - cut) (c - cut)) w := by
  obtain ⟨i0, hi, _, hz1, _⟩ := info_parts info21
  simp [Instr.slice, Instr.sliceBounds, Instr.sliceBound, asIntOf, run_underlying Try.underlying30, sizeOf, typeInfo, hi, hz1, go_sem]
  intro h
  omega

/-- A slice of numbers in block b, from offset o on, in a world in which another block's cell is written. -/
theorem sl_set {k : IntKind} {w : World} {g b o n X : Nat} {xs : List Int} (v : Value) (hb : b < g) (hne : b ≠ X) (hc : ∀ i, i < n → w.cell? ⟨b, o + i, none⟩ = some (.int k (xs.getD i 0))) : Sl k (w.setCell ⟨X, 0, none⟩ v) g (some ⟨b, o, none⟩) n xs :=
  .inr ⟨b, o, rfl, hb, fun i hi => (World.cell?_of_block (w := w) (Below.heap_setCell _ _ _ _ (by simpa using hne))).trans (hc i hi)⟩

theorem cut_any (a0 : Int) (a1 : Option Addr) (len1 cap1 : Nat) (z1 : List Int) (a2 : Int) (w : World) (w0 : (Lit.int .u32 a0).wf = true) (w1 : IsRow .i32 w a1 len1 cap1 z1) :
    Calls Try.prog 4 #[.int .u32 a0, .slice a1 len1 cap1, .int .i64 a2] w fun e w' => e = .returned (.bool true) ∧ Below w.heap.size w w' := by
  have hid := bounds_u32 w0
  have hlen : len1 ≤ 9223372036854775807 := by
    rcases w1 with ⟨_, h, _⟩ | ⟨_, _, h1, h2, _⟩
    · omega
    · unfold maxLen at h2; omega
  by_cases hl : 262144 < len1
  · exact cut_long _ _ _ _ _ _ hlen hl
  by_cases hc : a2 < 0 ∨ (len1 : Int) < a2
  · exact cut_out _ _ _ _ _ _ (by omega) hc
  obtain ⟨cut, rfl⟩ := Int.eq_ofNat_of_zero_le (show 0 ≤ a2 by omega)
  have hcut : cut ≤ len1 := by omega
  rcases w1 with ⟨rfl, rfl, rfl, rfl⟩ | ⟨x, rfl, hlc, hm, hz, hcell, _⟩
  · obtain rfl : cut = 0 := by omega
    exact cut_core a0 hid.1 (by omega) none none none _ 0 0 0 _ 0 [] w _ (by omega) (by omega) rfl (clone14_nil _) (Below.refl _ _) (.inl rfl) (.inl rfl) (.inl rfl) (slice_head none 0 0 0 (by omega)) (slice_rear none 0 0 0 (by omega))
  · have hW0 : (w.alloc (.cells #[.slice (some x) len1 cap1] 30)).heap.size = w.heap.size + 1 := by simp
    by_cases h0 : len1 = 0
    · subst h0
      obtain rfl : cut = 0 := by omega
      exact cut_core a0 hid.1 (by omega) (some x) _ _ _ 0 cap1 0 _ 0 [] w _ (by omega) (by omega) rfl ((clone14_empty x cap1 _).mono fun e w' h => ⟨h.1, h.2.symm⟩) ((Below.refl _ _).alloc (by omega) _) (.inl rfl) (.inl rfl) (.inl rfl) (slice_head _ 0 0 0 (by omega)) (slice_rear _ 0 0 0 (by omega))
    · obtain ⟨b, off, spot⟩ := x
      have hspot : spot = none := by simpa [Addr.add] using World.cell?_spot (hcell 0 (by omega))
      subst hspot
      have hc0 : ∀ i, i < len1 → w.cell? ⟨b, off + i, none⟩ = some (.int .i32 (z1.getD i 0)) := fun i hi => by rw [← add_plain]; exact hcell i (by omega)
      have hb : b < w.heap.size := World.block_lt_of_cell? _ _ (hc0 0 (by omega))
      have hz1 : len1 ≤ z1.length := by omega
      have hW1 : ((w.alloc (.cells #[.slice (some ⟨b, off, none⟩) len1 cap1] 30)).alloc (.cells (cl .i32 z1 len1 len1) 21)).heap.size = w.heap.size + 2 := by simp
      have hcl : ∀ i, i < len1 → ((w.alloc (.cells #[.slice (some ⟨b, off, none⟩) len1 cap1] 30)).alloc (.cells (cl .i32 z1 len1 len1) 21)).cell? ⟨w.heap.size + 1, i, none⟩ = some (.int .i32 (z1.getD i 0)) := fun i hi => by
        rw [World.cell?_alloc2_new]
        exact cl_get _ _ _ _ hi hz1
      have hgt : ∀ i, i < len1 → (z1.take len1).getD i 0 = z1.getD i 0 := fun i hi => by simp [hi]
      refine cut_core a0 hid.1 (by omega) (some ⟨b, off, none⟩) (some ⟨w.heap.size + 1, 0, none⟩) _ _ len1 cap1 len1 _ cut (z1.take len1) w _ (by omega) hcut (by simp; omega)
        ((clone14 b off len1 cap1 z1 _ (by omega) hz1 (by rw [hW0]; omega) fun i hi => (World.cell?_alloc_lt _ _ _ hb).trans (hc0 i hi)).mono fun e w' h => ⟨by rw [h.1, hW0], h.2.symm⟩)
        ((Below.refl _ _).alloc (by omega) _) (sl_set _ (by omega) (by omega) ?_) (sl_set (b := w.heap.size + 1) (o := 0) _ (by omega) (by omega) ?_) ?_ (slice_head _ _ _ _ (by omega)) (slice_rear _ _ _ _ hcut)
      · intro i hi
        rw [Nat.zero_add, hgt i hi]
        exact hcl i hi
      · intro i hi
        rw [Nat.zero_add, hcl i (by omega)]
        simp [hi, show i < len1 by omega]
      · by_cases he : len1 = cut
        · exact .inl (by omega)
        · rw [if_neg he, Option.map_some, add_plain, Nat.zero_add]
          refine sl_set _ (by omega) (by omega) ?_
          intro i hi
          rw [hcl (cut + i) (by omega)]
          simp [show cut + i < len1 by omega]
end Go.Proofs.Qxb6613120a
