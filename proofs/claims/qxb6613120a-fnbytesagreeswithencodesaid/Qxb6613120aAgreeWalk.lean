/-
  The walk of FnBytesAgreesWithEncode.
-/
import Derived.Test.Qxb6613120aEncode
import Derived.Test.Qxb6613120aAt32
import Derived.Test.Qxb6613120aPlain
namespace Go.Proofs.Qxb6613120a
open Go.RowKit

theorem len27 (id : Int) (a : Option Addr) (n c : Nat) (w : World) (hn : n ≤ 9223372036854775807) :
    Calls Try.prog 27 #[.int .u32 id, .slice a n c] w fun e w' => e = .returned (.bool (decide (n ≤ 1048576))) ∧ w = w' := by
  by_cases h : n ≤ 1048576
  · go_enter Try.func27, Try.ntmps27
    go_wp2
    go_ret
    exact ⟨by simp [h], rfl⟩
  · go_enter Try.func27, Try.ntmps27
    go_wp2
    go_ret
    exact ⟨by simp [h], rfl⟩

/-- Too long: nothing is tried. -/
theorem agree_long (id : Int) (a : Option Addr) (n c : Nat) (w : World) (hn : n ≤ 9223372036854775807) (h : 131072 < n) :
    Calls Try.prog 6 #[.int .u32 id, .slice a n c] w fun e w' => e = .returned (.bool true) ∧ Below w.heap.size w w' := by
  by_cases h2 : n ≤ 1048576
  · have hd : decide (n ≤ 1048576) = true := decide_eq_true h2
    go_enter Try.func6, Try.ntmps6
    go_wp2_with (go_at_call 27; refine (len27 _ _ _ _ _ (by omega)).mono ?_; rintro e w' ⟨rfl, rfl⟩)
    go_ret
    exact ⟨rfl, (Below.refl _ _).alloc (Nat.le_refl _) _⟩
  · have hd : decide (n ≤ 1048576) = false := decide_eq_false h2
    go_enter Try.func6, Try.ntmps6
    go_wp2_with (go_at_call 27; refine (len27 _ _ _ _ _ (by omega)).mono ?_; rintro e w' ⟨rfl, rfl⟩)
    go_ret
    exact ⟨rfl, (Below.refl _ _).alloc (Nat.le_refl _) _⟩

set_option maxHeartbeats 4000000 in
theorem agree_core (id : Int) (hid0 : 0 ≤ id) (hid1 : id < 4294967296) (a0 a : Option Addr) (n c0 cc : Nat) (xs : List Int) (w W1 : World) (hn : n ≤ 131072) (hxn : xs.length = n)
    (hclone : Calls Try.prog 22 #[.slice a0 n c0] (w.alloc (.cells #[.slice a0 n c0] 44)) fun e w' => e = .returned (.slice a n cc) ∧ W1 = w')
    (hB1 : Below (w.heap.size + 1) (w.alloc (.cells #[.slice a0 n c0] 44)) W1)
    (hs : Sl .i64 (W1.setCell ⟨w.heap.size, 0, none⟩ (.slice a n cc)) W1.heap.size a n xs) :
    Calls Try.prog 6 #[.int .u32 id, .slice a0 n c0] w fun e w' => e = .returned (.bool true) ∧ Below w.heap.size w w' := by
  have hd : decide (n ≤ 1048576) = true := decide_eq_true (by omega)
  have HC := hid_mk hclone
  have hXl : w.heap.size < W1.heap.size := by have := hB1.size; simp at this; omega
  have hcX : W1.cell? ⟨w.heap.size, 0, none⟩ = some (.slice a0 n c0) := (hB1.cell (p := ⟨w.heap.size, 0, none⟩) (by simp)).trans (by simp)
  have hfX : W1.frozen? ⟨w.heap.size, 0, none⟩ = false := (hB1.frozen (p := ⟨w.heap.size, 0, none⟩) (by simp)).trans (by simp)
  obtain ⟨W2, hW2⟩ : ∃ W2, W2 = W1.setCell ⟨w.heap.size, 0, none⟩ (.slice a n cc) := ⟨_, rfl⟩
  have hz2 : W2.heap.size = W1.heap.size := by rw [hW2]; simp [World.setCell]
  have HE2 : Hid (Enc (W2.alloc (.cells #[.slice none 0 0, .nilIface] 41)) W1.heap.size none 0 []) := by
    have := Enc.fresh W2
    rw [hz2] at this
    exact this
  have HX2 : Hid (W2.cell? ⟨w.heap.size, 0, none⟩ = some (.slice a n cc)) := by rw [hW2]; exact World.cell?_setCell_same _ _ _ hcX
  have HBw : Hid (Below w.heap.size w W2) := by
    rw [hW2]
    exact (((Below.refl _ _).alloc (Nat.le_refl _) _).trans (hB1.mono (by omega))).setCell (p := ⟨w.heap.size, 0, none⟩) (by simp) _
  rw [← hW2] at hs
  have HS := hid_mk hs
  have HW2 := hid_mk hW2
  clear hclone hB1 hs hW2
  go_enter Try.func6, Try.ntmps6
  go_wp2_with (first | (go_at_call 27; refine (len27 _ _ _ _ _ (by omega)).mono ?_; rintro e w' ⟨rfl, rfl⟩) | (go_at_call 22; refine HC.out.mono ?_; rintro e w' ⟨rfl, rfl⟩))
  rw [← HW2.out]
  refine (put28 W1.heap.size none 0 [] id _ HE2.out hid0 hid1 (by simp)).mono ?_
  rintro e w3 ⟨rfl, ⟨a3, c3, hE3⟩, hB3⟩
  rw [List.nil_append] at hE3
  have HE3 := hid_mk hE3
  have HB3 : Hid (Below W1.heap.size W2 w3) := ((Below.refl _ _).alloc (by omega) _).trans hB3
  clear hE3 hB3 HE2 HC HW2 hcX hfX
  go_wp2
  go_loopw [6] (fun i wr => ∃ (k : Nat) (a' : Option Addr) (c' : Nat), k ≤ n ∧ i = .int .i64 k ∧ Enc wr W1.heap.size a' c' (le4 id ++ enl (xs.take k)) ∧ Below W1.heap.size W2 wr) (fun i _ => n - (intOf i).toNat)
  case atStart => exact ⟨0, a3, c3, Nat.zero_le _, rfl, by simpa [enl] using HE3.out, HB3.out⟩
  case round =>
    obtain ⟨k, a', c', hk, rfl, hE, hB⟩ := hrel
    have HE := hid_mk hE
    have HB := hid_mk hB
    have hXr := (hB.cell (p := ⟨w.heap.size, 0, none⟩) hXl).trans HX2.out
    clear hE hB
    by_cases hlt' : k < n
    · rcases HS.out with h0 | ⟨b, o, ha, hbg, hc⟩
      · omega
      subst ha
      have hcr := (HB.out.cell (p := ⟨b, o + k, none⟩) hbg).trans (hc k hlt')
      have hi : (k : Int) < (n : Int) := by omega
      clear hc
      go_wp2_with fail
      refine (put23 W1.heap.size a' c' _ _ _ HE.out ?_).mono ?_
      · rw [List.length_append, enl_len, List.length_take]
        simp [le4]
        omega
      rintro e w6 ⟨rfl, ⟨a2, c2', hE2⟩, hB2⟩
      rw [List.append_assoc, ← enl_step xs k (by omega)] at hE2
      have HE2 := hid_mk hE2
      have HB2 := hid_mk (HB.out.trans hB2)
      clear hE2 hB2
      go_wp2
      go_roundw
      case rel => exact ⟨k + 1, a2, c2', by omega, by go_num, HE2.out, HB2.out⟩
      case measure => simp [intOf]; omega
    · have hkn : n = k := by omega
      subst hkn
      have HE4 : Hid (Enc wr W1.heap.size a' c' (le4 id ++ enl xs)) := by
        have := HE.out
        rw [List.take_of_length_le (by omega)] at this
        exact this
      have Hbl : Hid ((le4 id ++ enl xs).length = 4 + 8 * n) := by unfold Hid; rw [List.length_append, enl_len, hxn]; rfl
      obtain ⟨r1, ha1, _, hr1, hc1⟩ := HE4.out.form (by rw [Hbl.out]; omega)
      subst ha1
      have Hc1 : Hid (∀ j, j < 4 + 8 * n → wr.cell? ⟨r1, j, none⟩ = some (.int .u8 ((le4 id ++ enl xs).getD j 0))) := fun j hj => hc1 j (by rw [Hbl.out]; exact hj)
      have hzr := HB.out.size
      rw [hz2] at hzr
      have HXr := hid_mk hXr
      have KS := hid_mk (sl_mono (sl_below HS.out HB.out) hzr)
      have KB : Hid (Below w.heap.size w wr) := HBw.out.trans (HB.out.mono (by omega))
      clear HE HB HS HBw hc1 HX2 HB3 HE3
      go_wp2_with fail
      refine (bytes19 _ _ _ _ _ HE4.out).mono ?_
      rintro e w6 ⟨rfl, rfl⟩
      rw [Hbl.out]
      go_wp2_with fail
      refine (encode_29 id hid0 hid1 w.heap.size n cc a xs wr HXr.out KS.out hxn (by omega)).mono ?_
      rintro e w7 ⟨r2, c2, rfl, hr2, hr2', hc2, hB7⟩
      have hz7 := hB7.size
      have hX7 : w7.cell? ⟨w.heap.size, 0, none⟩ = some (.slice a n cc) := (hB7.cell (p := ⟨w.heap.size, 0, none⟩) (show w.heap.size < _ by omega)).trans HXr.out
      have K1 : Hid (∀ j, j < 4 + 8 * n → w7.cell? ⟨r1, j, none⟩ = some (.int .u8 ((le4 id ++ enl xs).getD j 0))) := fun j hj => (hB7.cell (p := ⟨r1, j, none⟩) hr1).trans (Hc1.out j hj)
      have K2 := hid_mk hc2
      have KS7 := hid_mk (sl_below KS.out hB7)
      have KB7 : Hid (Below w.heap.size w w7) := KB.out.trans (hB7.mono (by omega))
      clear hB7 hc2 Hc1 KS KB HE4 hXr HXr
      go_wp2_with fail
      refine (at20 r1 0 (4 + 8 * n) c' 0 _ id rfl w7 hid0 hid1 (by omega) (by omega) ?_).mono ?_
      · intro j hj
        rw [Nat.zero_add, Nat.zero_add, K1.out j (by omega), whole_id id _ j hj]
      rintro e w8 ⟨rfl, rfl⟩
      go_wp2
      go_loop [11] (fun i => ∃ k : Nat, k ≤ n ∧ i = .int .i64 k) (fun i => n - (intOf i).toNat)
      case atStart => exact ⟨0, Nat.zero_le _, rfl⟩
      case round =>
        obtain ⟨k, hk2, rfl⟩ := hrel
        by_cases hlt2 : k < n
        · rcases KS7.out with h0 | ⟨b, o, ha, hbg, hc⟩
          · omega
          subst ha
          have hcr := hc k hlt2
          have hi : (k : Int) < (n : Int) := by omega
          have hxk : k < xs.length := by omega
          have Hub := hid_mk (u64_bounds xs[k])
          clear hc
          go_wp2_with fail
          refine (at24 r1 0 (4 + 8 * n) c' (4 + 8 * k) _ _ ?_ w7 Hub.out.1 Hub.out.2 (by omega) (by omega) ?_).mono ?_
          · omega
          · intro j hj
            rw [Nat.zero_add, K1.out (4 + 8 * k + j) (by omega), wholel_at id xs k j hxk hj]
          rintro e w8 ⟨rfl, rfl⟩
          go_wp2
          go_round
          case rel => exact ⟨k + 1, by omega, by go_num⟩
          case measure => simp [intOf]; omega
        · go_wp2_with fail
          refine (eq12 r1 0 c' r2 0 c2 (4 + 8 * n) (le4 id ++ enl xs) w7 (by omega) ?_ ?_).mono ?_
          · intro j hj; rw [Nat.zero_add]; exact K1.out j hj
          · intro j hj; rw [Nat.zero_add]; exact K2.out j hj
          rintro e w9 ⟨rfl, q, rfl⟩
          go_wp2
          go_ret
          exact ⟨rfl, below_drewN KB7.out q⟩
end Go.Proofs.Qxb6613120a
