/-
  Plain facts on the encodings of lists of numbers.
-/
import Derived.Test.Qxb6613120aClo
namespace Go.Proofs.Qxb6613120a

theorem getD_left (l1 l2 : List Int) (j : Nat) (hj : j < l1.length) : (l1 ++ l2).getD j 0 = l1.getD j 0 := by
  simp [List.getElem?_append_left hj]
theorem getD_right (l1 l2 : List Int) (j : Nat) : (l1 ++ l2).getD (l1.length + j) 0 = l2.getD j 0 := by
  simp [List.getElem?_append_right (Nat.le_add_right l1.length j)]

theorem ens_at : ∀ (xs : List Int) (i j : Nat) (hi : i < xs.length), j < 4 → (ens xs).getD (4 * i + j) 0 = (le4 (IntKind.u32.wrap xs[i])).getD j 0
  | x :: r, 0, j, _, hj => by
    rw [ens_cons, Nat.mul_zero, Nat.zero_add, getD_left _ _ _ (by simpa [le4] using hj)]
    rfl
  | x :: r, i + 1, j, hi, hj => by
    have e : 4 * (i + 1) + j = (le4 (IntKind.u32.wrap x)).length + (4 * i + j) := by simp [le4]; omega
    rw [ens_cons, e, getD_right, ens_at r i j (by simpa using hi) hj]
    rfl
theorem enl_at : ∀ (xs : List Int) (i j : Nat) (hi : i < xs.length), j < 8 → (enl xs).getD (8 * i + j) 0 = (le8 (IntKind.u64.wrap xs[i])).getD j 0
  | x :: r, 0, j, _, hj => by
    rw [enl_cons, Nat.mul_zero, Nat.zero_add, getD_left _ _ _ (by simpa [le8] using hj)]
    rfl
  | x :: r, i + 1, j, hi, hj => by
    have e : 8 * (i + 1) + j = (le8 (IntKind.u64.wrap x)).length + (8 * i + j) := by simp [le8]; omega
    rw [enl_cons, e, getD_right, enl_at r i j (by simpa using hi) hj]
    rfl

theorem whole_id (id : Int) (ys : List Int) (j : Nat) (hj : j < 4) : (le4 id ++ ys).getD j 0 = (le4 id).getD j 0 := getD_left _ _ _ (by simpa [le4] using hj)
theorem whole_at (id : Int) (xs : List Int) (i j : Nat) (hi : i < xs.length) (hj : j < 4) : (le4 id ++ ens xs).getD (4 + 4 * i + j) 0 = (le4 (IntKind.u32.wrap xs[i])).getD j 0 := by
  have e : 4 + 4 * i + j = (le4 id).length + (4 * i + j) := by simp [le4]; omega
  rw [e, getD_right, ens_at xs i j hi hj]
theorem wholel_at (id : Int) (xs : List Int) (i j : Nat) (hi : i < xs.length) (hj : j < 8) : (le4 id ++ enl xs).getD (4 + 8 * i + j) 0 = (le8 (IntKind.u64.wrap xs[i])).getD j 0 := by
  have e : 4 + 8 * i + j = (le4 id).length + (8 * i + j) := by simp [le4]; omega
  rw [e, getD_right, enl_at xs i j hi hj]

theorem front_at (id : Int) (xs : List Int) (cut i : Nat) (hc : cut ≤ xs.length) (hi : i < 4 + 4 * cut) : (le4 id ++ ens (xs.take cut)).getD i 0 = (le4 id ++ ens xs).getD i 0 := by
  have e : le4 id ++ ens xs = (le4 id ++ ens (xs.take cut)) ++ ens (xs.drop cut) := by
    rw [List.append_assoc, ← ens_append, List.take_append_drop]
  have hl : i < (le4 id ++ ens (xs.take cut)).length := by
    rw [List.length_append, ens_len, List.length_take]
    simp [le4]; omega
  rw [e, getD_left _ _ _ hl]
theorem back_at (id : Int) (xs : List Int) (cut i : Nat) (hc : cut ≤ xs.length) : (ens (xs.drop cut)).getD i 0 = (le4 id ++ ens xs).getD (4 + 4 * cut + i) 0 := by
  have e : le4 id ++ ens xs = (le4 id ++ ens (xs.take cut)) ++ ens (xs.drop cut) := by
    rw [List.append_assoc, ← ens_append, List.take_append_drop]
  have e2 : 4 + 4 * cut + i = (le4 id ++ ens (xs.take cut)).length + i := by
    rw [List.length_append, ens_len, List.length_take]
    simp [le4]; omega
  rw [e, e2, getD_right]
end Go.Proofs.Qxb6613120a
