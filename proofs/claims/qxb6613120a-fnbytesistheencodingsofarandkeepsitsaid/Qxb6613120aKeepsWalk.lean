/-
  The walk of FnBytesIsTheEncodingSoFarAndKeepsIt.
-/
import Derived.Test.Qxb6613120aFourWalk
import Derived.Test.Qxb6613120aEncode
import Derived.Test.Qxb6613120aAt32
import Derived.Test.Qxb6613120aPlain
namespace Go.Proofs.Qxb6613120a
open Go.RowKit

/-- A slice of n bytes: empty, or it begins at a block's head and holds bs. -/
def BS (w : World) (a : Option Addr) (n : Nat) (bs : List Int) : Prop :=
  n = 0 ∨ ∃ r, a = some ⟨r, 0, none⟩ ∧ r < w.heap.size ∧ ∀ j, j < n → w.cell? ⟨r, j, none⟩ = some (.int .u8 (bs.getD j 0))

theorem eq_bs (w : World) (a1 a2 : Option Addr) (n c1 c2 : Nat) (bs : List Int) (hn : n ≤ 1099511627776) (h1 : BS w a1 n bs) (h2 : BS w a2 n bs) :
    Calls Try.prog 12 #[.slice a1 n c1, .slice a2 n c2] w fun e w' => e = .returned (.bool true) ∧ ∃ q, w' = w.drewN q := by
  by_cases h0 : n = 0
  · subst h0; exact eq12_empty a1 a2 c1 c2 w
  · obtain ⟨r1, rfl, _, k1⟩ := h1.resolve_left h0
    obtain ⟨r2, rfl, _, k2⟩ := h2.resolve_left h0
    exact eq12 r1 0 c1 r2 0 c2 n bs w hn (fun i hi => by rw [Nat.zero_add]; exact k1 i hi) (fun i hi => by rw [Nat.zero_add]; exact k2 i hi)

theorem BS.below {w w' : World} {a : Option Addr} {n : Nat} {bs : List Int} (h : BS w a n bs) (hb : Below w.heap.size w w') : BS w' a n bs := by
  rcases h with h | ⟨r, ha, hr, hc⟩
  · exact .inl h
  · exact .inr ⟨r, ha, Nat.lt_of_lt_of_le hr hb.size, fun j hj => (hb.cell (p := ⟨r, j, none⟩) hr).trans (hc j hj)⟩

theorem Enc.bs {w : World} {g : Nat} {a : Option Addr} {c : Nat} {bs : List Int} (h : Enc w g a c bs) : BS w a bs.length bs := by
  by_cases h0 : bs.length = 0
  · exact .inl h0
  · obtain ⟨r, ha, _, hr, hc⟩ := h.form (by omega)
    exact .inr ⟨r, ha, hr, hc⟩

theorem Enc.drewN {w : World} {g : Nat} {a : Option Addr} {c : Nat} {bs : List Int} (h : Enc w g a c bs) (q : Nat) : Enc (w.drewN q) g a c bs := ⟨h.block, h.own⟩

theorem bs_of_own {w : World} {base : Nat} {a : Option Addr} {c : Nat} {bs : List Int} (h : w.ownsRow base 5 1 (.slice a bs.length c) bs.length (bs.map (Value.int .u8))) : BS w a bs.length bs := by
  by_cases h0 : bs.length = 0
  · exact .inl h0
  · obtain ⟨r, cap, hv, _, hlt⟩ := h.form (by omega)
    simp only [Value.slice.injEq] at hv
    obtain ⟨rfl, _, rfl⟩ := hv
    refine .inr ⟨r, rfl, hlt, fun j hj => ?_⟩
    have := h.cells (g := r) rfl j (.int .u8 (bs.getD j 0)) (by simp [hj])
    rwa [show (⟨r, 0, none⟩ : Addr).add j = ⟨r, j, none⟩ from by unfold Addr.add; split <;> simp_all] at this

/-- zzClone of what an Encoder holds. -/
theorem clone_enc (w : World) (g : Nat) (a : Option Addr) (c : Nat) (bs : List Int) (h : Enc w g a c bs) (hl : bs.length ≤ 1048576) :
    Calls Try.prog 9 #[.slice a bs.length c] w fun e w' => ∃ ak ck, e = .returned (.slice ak bs.length ck) ∧ Below w.heap.size w w' ∧
      (bs.length = 0 ∨ ∃ r, ak = some ⟨r, 0, none⟩ ∧ w.heap.size ≤ r ∧ r < w'.heap.size ∧ ∀ j, j < bs.length → w'.cell? ⟨r, j, none⟩ = some (.int .u8 (bs.getD j 0))) := by
  by_cases h0 : bs.length = 0
  · rcases h.own.2 with ⟨hv, _⟩ | ⟨r, cap, cur, hv, _⟩
    · simp only [Value.slice.injEq] at hv
      obtain ⟨rfl, _, rfl⟩ := hv
      rw [h0]
      refine (clone9_nil w).mono ?_
      rintro e w' ⟨rfl, rfl⟩
      exact ⟨_, _, rfl, Below.refl _ _, .inl rfl⟩
    · simp only [Value.slice.injEq] at hv
      obtain ⟨rfl, _, _⟩ := hv
      rw [h0]
      refine (clone9_empty _ c w).mono ?_
      rintro e w' ⟨rfl, rfl⟩
      exact ⟨_, _, rfl, (Below.refl _ _).alloc (Nat.le_refl _) _, .inl rfl⟩
  · obtain ⟨r, rfl, _, hr, hc⟩ := h.form (by omega)
    refine (clone9 r 0 bs.length c bs w hl (Nat.le_refl _) hr fun i hi => by rw [Nat.zero_add]; exact hc i hi).mono ?_
    rintro e w' ⟨rfl, rfl⟩
    refine ⟨_, _, rfl, (Below.refl _ _).alloc (Nat.le_refl _) _, .inr ⟨w.heap.size, rfl, Nat.le_refl _, by simp, fun j hj => ?_⟩⟩
    rw [World.cell?_alloc_new]
    exact cl_get _ _ _ _ hj (Nat.le_refl _)

theorem len21 (a : Option Addr) (n c : Nat) (vs : List Int) (w : World) (hn : n ≤ 9223372036854775807) :
    Calls Try.prog 21 #[.slice a n c, .agg (arr vs)] w fun e w' => e = .returned (.bool (decide (n ≤ 1048576))) ∧ w' = w.alloc (.cells (arr vs) 45) := by
  by_cases h : n ≤ 1048576
  · go_enter Try.func21, Try.ntmps21
    go_wp2
    go_ret
    exact ⟨by simp [h], rfl⟩
  · go_enter Try.func21, Try.ntmps21
    go_wp2
    go_ret
    exact ⟨by simp [h], rfl⟩
end Go.Proofs.Qxb6613120a
