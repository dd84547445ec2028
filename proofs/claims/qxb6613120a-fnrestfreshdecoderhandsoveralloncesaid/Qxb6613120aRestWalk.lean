/-
  The walk of FnRestFreshDecoderHandsOverAllOnce: a decoder over a copy hands the copy over once.
-/
import Derived.Test.Qxb6613120aEq
import Derived.WalkSmall
import Derived.ProofKit
namespace Go.Proofs.Qxb6613120a
open Go.ChangeShapes Go.WideShapes Go.ChangeAt Go.RowKit

theorem len8 (a : Option Addr) (n c : Nat) (w : World) (hn : n ≤ 9223372036854775807) :
    Calls Try.prog 8 #[.slice a n c] w fun e w' => e = .returned (.bool (decide (n ≤ 1048576))) ∧ w = w' := by
  by_cases h : n ≤ 1048576
  · go_enter Try.func8, Try.ntmps8
    go_wp2
    go_ret
    exact ⟨by simp [h], rfl⟩
  · go_enter Try.func8, Try.ntmps8
    go_wp2
    go_ret
    exact ⟨by simp [h], rfl⟩

/-- The nil slice. -/
theorem rest_nil (w : World) :
    Calls Try.prog 3 #[.slice none 0 0] w fun e w' => e = .returned (.bool true) ∧ Below w.heap.size w w' := by
  have he := fun wx => Lib.run_eql_slice_nil (P := Try.prog) wx 22 5 none 0 0 0 0 Try.underlying22
  have hne := fun wx => run_neq_slice_nil_any (P := Try.prog) wx 22 5 none 0 0 0 0 Try.underlying22
  go_enter Try.func3, Try.ntmps3
  go_wp2_with (first | (go_at_call 8; refine (len8 _ _ _ _ (by omega)).mono ?_; rintro e w' ⟨rfl, rfl⟩) | (go_at_call 9; refine (clone9_nil _).mono ?_; rintro e w' ⟨rfl, rfl⟩) | go_in)
  go_ret
  exact ⟨rfl, (Below.refl _ _).alloc (Nat.le_refl _) _⟩

/-- More than 2^20 bytes: nothing is tried. -/
theorem rest_long (a : Option Addr) (n c : Nat) (w : World) (hn : n ≤ 9223372036854775807) (h : 1048576 < n) :
    Calls Try.prog 3 #[.slice a n c] w fun e w' => e = .returned (.bool true) ∧ Below w.heap.size w w' := by
  have hd : decide (n ≤ 1048576) = false := decide_eq_false (by omega)
  go_enter Try.func3, Try.ntmps3
  go_wp2_with (first | (go_at_call 8; refine (len8 _ _ _ _ (by omega)).mono ?_; rintro e w' ⟨rfl, rfl⟩))
  go_ret
  exact ⟨rfl, Below.refl _ _⟩

/-- An empty slice that is not nil. -/
theorem rest_empty (x : Addr) (c : Nat) (w : World) :
    Calls Try.prog 3 #[.slice (some x) 0 c] w fun e w' => e = .returned (.bool true) ∧ Below w.heap.size w w' := by
  have he := fun wx => Lib.run_eql_slice_nil (P := Try.prog) wx 22 5 none 0 0 0 0 Try.underlying22
  have hne := fun wx => run_neq_slice_nil_any (P := Try.prog) wx 22 5 none 0 0 0 0 Try.underlying22
  go_enter Try.func3, Try.ntmps3
  go_wp2_with (first | (go_at_call 8; refine (len8 _ _ _ _ (by omega)).mono ?_; rintro e w' ⟨rfl, rfl⟩) | (go_at_call 9; refine (clone9_empty _ _ _).mono ?_; rintro e w' ⟨rfl, rfl⟩) | go_in)
  go_ret
  exact ⟨rfl, (((Below.refl _ _).alloc (Nat.le_refl _) _).alloc (by simp) _).alloc (by simp; omega) _⟩

theorem al3a (w : World) (C : Array Value) (t : TypeId) (o1 o2 : Obj) (i : Nat) : (((w.alloc (.cells C t)).alloc o1).alloc o2).cell? ⟨w.heap.size, i, none⟩ = C[i]? := by
  rw [World.cell?_alloc_lt _ _ _ (by simp; omega), World.cell?_alloc_lt _ _ _ (by simp), World.cell?_alloc_new]
theorem al3b (w : World) (C : Array Value) (t : TypeId) (o1 o2 : Obj) (i : Nat) : (((w.alloc o1).alloc (.cells C t)).alloc o2).cell? ⟨w.heap.size + 1, i, none⟩ = C[i]? := by
  rw [World.cell?_alloc_lt _ _ _ (by simp), World.cell?_alloc2_new]

/-- At least one byte. -/
theorem rest_some (b off n c : Nat) (zs : List Int) (w : World) (hn : n ≤ 1048576) (hn0 : 0 < n) (hz : n ≤ zs.length) 
    (hc : ∀ i, i < n → w.cell? ⟨b, off + i, none⟩ = some (.int .u8 (zs.getD i 0))) :
    Calls Try.prog 3 #[.slice (some ⟨b, off, none⟩) n c] w fun e w' => e = .returned (.bool true) ∧ Below w.heap.size w w' := by
  have hb : b < w.heap.size := World.block_lt_of_cell? _ _ (hc 0 hn0)
  have he := fun wx => Lib.run_eql_slice_nil (P := Try.prog) wx 22 5 none 0 0 0 0 Try.underlying22
  have hne := fun wx => run_neq_slice_nil_any (P := Try.prog) wx 22 5 none 0 0 0 0 Try.underlying22
  have hd : decide (n ≤ 1048576) = true := decide_eq_true hn
  have hz0 : ((n : Int) == 0) = false := by simp; omega
  go_enter Try.func3, Try.ntmps3
  go_wp2_with (first | (go_at_call 8; refine (len8 _ _ _ _ (by omega)).mono ?_; rintro e w' ⟨rfl, rfl⟩))
  refine (clone9 b off n c zs w hn hz hb hc).mono ?_
  rintro e w' ⟨rfl, rfl⟩
  go_wp2_with fail
  refine (clone9 b off n c zs _ hn hz (by simp; omega) ?_).mono ?_
  · intro i hi; rw [World.cell?_alloc_lt _ _ _ hb]; exact hc i hi
  rintro e w' ⟨rfl, rfl⟩
  go_wp2_with (first | (go_at_call 12; refine (eq12 _ _ _ _ _ _ n zs _ (by omega) ?e1 ?e2).mono ?_; rotate_right; rintro e w' ⟨rfl, q, rfl⟩) | go_in)
  case e1 => intro i hi; rw [Nat.zero_add, al3b]; exact cl_get _ _ _ _ hi hz
  case e2 => intro i hi; rw [Nat.zero_add, al3a]; exact cl_get _ _ _ _ hi hz
  go_ret
  exact ⟨rfl, below_drewN ((((Below.refl _ _).alloc (Nat.le_refl _) _).alloc (by simp) _).alloc (by simp; omega) _) q⟩

theorem rest_any (a0 : Option Addr) (len0 cap0 : Nat) (z0 : List Int) (w : World)
    (h : (a0 = none ∧ len0 = 0 ∧ cap0 = 0 ∧ z0 = []) ∨ ∃ x, a0 = some x ∧ len0 ≤ cap0 ∧ cap0 ≤ maxLen ∧ z0.length = cap0 ∧ (∀ i, i < z0.length → w.cell? (x.add i) = some (.int .u8 (z0.getD i 0))) ∧ ∀ n ∈ z0, (Lit.int .u8 n).wf = true) :
    Calls Try.prog 3 #[.slice a0 len0 cap0] w fun e w' => e = .returned (.bool true) ∧ Below w.heap.size w w' := by
  rcases h with ⟨rfl, rfl, rfl, rfl⟩ | ⟨x, rfl, hl, hm, hz, hc, _⟩
  · exact rest_nil w
  · unfold maxLen at hm
    by_cases hb : 1048576 < len0
    · exact rest_long _ _ _ _ (by omega) hb
    · by_cases h0 : len0 = 0
      · subst h0; exact rest_empty _ _ _
      · obtain ⟨b, off, spot⟩ := x
        have hspot : spot = none := by simpa [Addr.add] using World.cell?_spot (hc 0 (by omega))
        subst hspot
        exact rest_some b off len0 cap0 z0 w (by omega) (by omega) (by omega) fun i hi => by rw [← add_plain]; exact hc i (by omega)
end Go.Proofs.Qxb6613120a
