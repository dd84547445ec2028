/-
  The walk of FnEncodeIsIDThenFieldsAtAnyCut.
-/
import Derived.Test.Qxb6613120aEncode
import Derived.Test.Qxb6613120aAt32
import Derived.Test.Qxb6613120aPlain
namespace Go.Proofs.Qxb6613120a
open Go.RowKit

theorem len13 (id cut : Int) (a : Option Addr) (n c : Nat) (w : World) (hn : n ≤ 9223372036854775807) :
    Calls Try.prog 13 #[.int .u32 id, .slice a n c, .int .i64 cut] w fun e w' => e = .returned (.bool (decide (n ≤ 1048576))) ∧ w = w' := by
  by_cases h : n ≤ 1048576
  · go_enter Try.func13, Try.ntmps13
    go_wp2
    go_ret
    exact ⟨by simp [h], rfl⟩
  · go_enter Try.func13, Try.ntmps13
    go_wp2
    go_ret
    exact ⟨by simp [h], rfl⟩

/-- Too long: nothing is tried. -/
theorem cut_long (id cut : Int) (a : Option Addr) (n c : Nat) (w : World) (hn : n ≤ 9223372036854775807) (h : 262144 < n) :
    Calls Try.prog 4 #[.int .u32 id, .slice a n c, .int .i64 cut] w fun e w' => e = .returned (.bool true) ∧ Below w.heap.size w w' := by
  by_cases h2 : n ≤ 1048576
  · have hd : decide (n ≤ 1048576) = true := decide_eq_true h2
    go_enter Try.func4, Try.ntmps4
    go_wp2_with (go_at_call 13; refine (len13 _ _ _ _ _ _ (by omega)).mono ?_; rintro e w' ⟨rfl, rfl⟩)
    go_ret
    exact ⟨rfl, (Below.refl _ _).alloc (Nat.le_refl _) _⟩
  · have hd : decide (n ≤ 1048576) = false := decide_eq_false h2
    go_enter Try.func4, Try.ntmps4
    go_wp2_with (go_at_call 13; refine (len13 _ _ _ _ _ _ (by omega)).mono ?_; rintro e w' ⟨rfl, rfl⟩)
    go_ret
    exact ⟨rfl, (Below.refl _ _).alloc (Nat.le_refl _) _⟩

/-- The cut lies outside. -/
theorem cut_out (id cut : Int) (a : Option Addr) (n c : Nat) (w : World) (hn : n ≤ 262144) (h : cut < 0 ∨ (n : Int) < cut) :
    Calls Try.prog 4 #[.int .u32 id, .slice a n c, .int .i64 cut] w fun e w' => e = .returned (.bool true) ∧ Below w.heap.size w w' := by
  have hd : decide (n ≤ 1048576) = true := decide_eq_true (by omega)
  rcases h with h | h
  · have h' : decide (cut < 0) = true := decide_eq_true h
    go_enter Try.func4, Try.ntmps4
    go_wp2_with (go_at_call 13; refine (len13 _ _ _ _ _ _ (by omega)).mono ?_; rintro e w' ⟨rfl, rfl⟩)
    go_ret
    exact ⟨rfl, (Below.refl _ _).alloc (Nat.le_refl _) _⟩
  · have h' : decide (cut < 0) = false := decide_eq_false (by omega)
    go_enter Try.func4, Try.ntmps4
    go_wp2_with (go_at_call 13; refine (len13 _ _ _ _ _ _ (by omega)).mono ?_; rintro e w' ⟨rfl, rfl⟩)
    go_ret
    exact ⟨rfl, (Below.refl _ _).alloc (Nat.le_refl _) _⟩

set_option maxHeartbeats 4000000 in
theorem cut_core (id : Int) (hid0 : 0 ≤ id) (hid1 : id < 4294967296) (a0 a ah ar : Option Addr) (n c0 cc cr cut : Nat) (xs : List Int) (w W1 : World) (hn : n ≤ 262144) (hcut : cut ≤ n) (hxn : xs.length = n)
    (hclone : Calls Try.prog 14 #[.slice a0 n c0] (w.alloc (.cells #[.slice a0 n c0] 30)) fun e w' => e = .returned (.slice a n cc) ∧ W1 = w')
    (hB1 : Below (w.heap.size + 1) (w.alloc (.cells #[.slice a0 n c0] 30)) W1)
    (hs : Sl .i32 (W1.setCell ⟨w.heap.size, 0, none⟩ (.slice a n cc)) W1.heap.size a n xs) (hsh : Sl .i32 (W1.setCell ⟨w.heap.size, 0, none⟩ (.slice a n cc)) W1.heap.size ah cut (xs.take cut))
    (hsr : Sl .i32 (W1.setCell ⟨w.heap.size, 0, none⟩ (.slice a n cc)) W1.heap.size ar (n - cut) (xs.drop cut))
    (hh : ∀ wx, (Instr.slice 30 (.slice a n cc) none (some (.int .i64 cut)) none).run Try.prog wx = .ok (.slice ah cut cc) wx)
    (hr : ∀ wx, (Instr.slice 30 (.slice a n cc) (some (.int .i64 cut)) none none).run Try.prog wx = .ok (.slice ar (n - cut) cr) wx) :
    Calls Try.prog 4 #[.int .u32 id, .slice a0 n c0, .int .i64 cut] w fun e w' => e = .returned (.bool true) ∧ Below w.heap.size w w' := by
  have hd : decide (n ≤ 1048576) = true := decide_eq_true (by omega)
  have hd0 : decide ((cut : Int) < 0) = false := decide_eq_false (by omega)
  have HC := hid_mk hclone
  have hXl : w.heap.size < W1.heap.size := by have := hB1.size; simp at this; omega
  have hcX : W1.cell? ⟨w.heap.size, 0, none⟩ = some (.slice a0 n c0) := (hB1.cell (p := ⟨w.heap.size, 0, none⟩) (by simp)).trans (by simp)
  have hfX : W1.frozen? ⟨w.heap.size, 0, none⟩ = false := (hB1.frozen (p := ⟨w.heap.size, 0, none⟩) (by simp)).trans (by simp)
  obtain ⟨W3, hW3⟩ : ∃ W3, W3 = (W1.setCell ⟨w.heap.size, 0, none⟩ (.slice a n cc)).alloc (.cells #[.slice ah cut cc] 30) := ⟨_, rfl⟩
  have hz2 : (W1.setCell ⟨w.heap.size, 0, none⟩ (.slice a n cc)).heap.size = W1.heap.size := by simp [World.setCell]
  have hz3 : W3.heap.size = W1.heap.size + 1 := by rw [hW3, World.size_alloc, hz2]
  have hB3 : Below W1.heap.size (W1.setCell ⟨w.heap.size, 0, none⟩ (.slice a n cc)) W3 := by rw [hW3]; exact (Below.refl _ _).alloc (by omega) _
  have HBw : Hid (Below w.heap.size w W3) := by
    rw [hW3]
    exact ((((Below.refl _ _).alloc (Nat.le_refl _) _).trans (hB1.mono (by omega))).setCell (p := ⟨w.heap.size, 0, none⟩) (by simp) _).alloc (by rw [hz2]; omega) _
  have HX3 : Hid (W3.cell? ⟨w.heap.size, 0, none⟩ = some (.slice a n cc)) := (hB3.cell (p := ⟨w.heap.size, 0, none⟩) hXl).trans (World.cell?_setCell_same _ _ _ hcX)
  have HH3 : Hid (W3.cell? ⟨W1.heap.size, 0, none⟩ = some (.slice ah cut cc)) := by
    have := World.cell?_alloc_new (W1.setCell ⟨w.heap.size, 0, none⟩ (.slice a n cc)) #[.slice ah cut cc] 30 0
    rw [hz2] at this
    rw [hW3]; exact this
  have HS := hid_mk (sl_mono (sl_below hs hB3) (show W1.heap.size ≤ W3.heap.size by omega))
  have HSh := hid_mk (sl_mono (sl_below hsh hB3) (show W1.heap.size ≤ W3.heap.size by omega))
  have HSr := hid_mk (sl_mono (sl_below hsr hB3) (show W1.heap.size ≤ W3.heap.size by omega))
  have HW3 := hid_mk hW3
  clear hclone hB1 hs hsh hsr hW3 hz2 hB3
  go_enter Try.func4, Try.ntmps4
  go_wp2_with (first | (go_at_call 13; refine (len13 _ _ _ _ _ _ (by omega)).mono ?_; rintro e w' ⟨rfl, rfl⟩) | (go_at_call 14; refine HC.out.mono ?_; rintro e w' ⟨rfl, rfl⟩))
  rw [← HW3.out]
  refine (encode_16 id hid0 hid1 w.heap.size n cc a xs W3 HX3.out HS.out hxn (by omega)).mono ?_
  rintro e w4 ⟨r1, c1, rfl, hr1, hr1', hcell1, hB4⟩
  have hz4 := hB4.size
  have HB4 := hid_mk hB4
  have HC1 := hid_mk hcell1
  clear hcell1 hB4 hh hr HC HW3 hcX hfX
  obtain ⟨ys, hys⟩ : ∃ ys, ys = xs.drop cut := ⟨_, rfl⟩
  have hyl : ys.length = n - cut := by rw [hys, List.length_drop, hxn]
  rw [← hys] at HSr
  have HY := hid_mk hys
  clear hys
  go_wp2_with fail
  refine (encode_18 id hid0 hid1 W1.heap.size cut cc ah (xs.take cut) w4 ((HB4.out.cell (p := ⟨W1.heap.size, 0, none⟩) (by show W1.heap.size < _; omega)).trans HH3.out) (sl_mono (sl_below HSh.out HB4.out) hz4) (by rw [List.length_take]; omega) (by omega)).mono ?_
  rintro e w5 ⟨r2, c2, rfl, hr2, hr2', hcell2, hB5⟩
  have hz5 := hB5.size
  have hzr5 : W3.heap.size ≤ w5.heap.size := by omega
  have HB5 : Hid (Below W3.heap.size W3 w5) := HB4.out.trans (hB5.mono hz4)
  have HC1' : Hid (∀ j, j < 4 + 4 * n → w5.cell? ⟨r1, j, none⟩ = some (.int .u8 ((le4 id ++ ens xs).getD j 0))) := fun j hj => (hB5.cell (p := ⟨r1, j, none⟩) hr1').trans (HC1.out j hj)
  have HC2 := hid_mk hcell2
  have hr15 : r1 < w5.heap.size := by omega
  clear hcell2 hB5 HB4 HC1 HH3 HSh
  go_wp2
  go_loopw [14] (fun i wr => ∃ (k : Nat) (a' : Option Addr) (c' : Nat), k ≤ n - cut ∧ i = .int .i64 k ∧ Enc wr w5.heap.size a' c' (ens (ys.take k)) ∧ Below w5.heap.size w5 wr) (fun i _ => n - cut - (intOf i).toNat)
  case atStart => exact ⟨0, none, 0, Nat.zero_le _, rfl, Enc.fresh w5, (Below.refl _ _).alloc (Nat.le_refl _) _⟩
  case round =>
    obtain ⟨k, a', c', hk, rfl, hE, hB⟩ := hrel
    have HE := hid_mk hE
    have HB := hid_mk hB
    clear hE hB
    by_cases hlt' : k < n - cut
    · rcases HSr.out with h0 | ⟨b, o, ha, hbg, hc⟩
      · omega
      subst ha
      have hcr := (HB.out.cell (p := ⟨b, o + k, none⟩) (show b < _ by omega)).trans ((HB5.out.cell (p := ⟨b, o + k, none⟩) hbg).trans (hc k hlt'))
      have hi : (k : Int) < ((n - cut : Nat) : Int) := by omega
      clear hc
      go_wp2_with fail
      refine (put17 w5.heap.size a' c' _ _ _ HE.out ?_).mono ?_
      · rw [ens_len, List.length_take]
        omega
      rintro e w6 ⟨rfl, ⟨a2, c2', hE2⟩, hB2⟩
      rw [← ens_step ys k (by omega)] at hE2
      have HE2 := hid_mk hE2
      have HB2 := hid_mk (HB.out.trans hB2)
      clear hE2 hB2
      go_wp2
      go_roundw
      case rel => exact ⟨k + 1, a2, c2', by omega, by go_num, HE2.out, HB2.out⟩
      case measure => simp [intOf]; omega
    · have hkn : k = n - cut := by omega
      subst hkn
      have HE3 : Hid (Enc wr w5.heap.size a' c' (ens ys)) := by
        have := HE.out
        rw [List.take_of_length_le (by omega)] at this
        exact this
      have hbl : (ens ys).length = 4 * (n - cut) := by rw [ens_len, hyl]
      have Hbl := hid_mk hbl
      have hzr := HB.out.size
      have hXr : wr.cell? ⟨w.heap.size, 0, none⟩ = some (.slice a n cc) := (HB.out.cell (p := ⟨w.heap.size, 0, none⟩) (show w.heap.size < _ by omega)).trans ((HB5.out.cell (p := ⟨w.heap.size, 0, none⟩) (show w.heap.size < _ by omega)).trans HX3.out)
      have K1 : Hid (∀ j, j < 4 + 4 * n → wr.cell? ⟨r1, j, none⟩ = some (.int .u8 ((le4 id ++ ens xs).getD j 0))) := fun j hj => (HB.out.cell (p := ⟨r1, j, none⟩) hr15).trans (HC1'.out j hj)
      have K2 : Hid (∀ j, j < 4 + 4 * cut → wr.cell? ⟨r2, j, none⟩ = some (.int .u8 ((le4 id ++ ens xs).getD j 0))) := fun j hj => by
        rw [← front_at id xs cut j (by omega) hj]
        exact (HB.out.cell (p := ⟨r2, j, none⟩) hr2').trans (HC2.out j hj)
      have K3 : Hid (4 * (n - cut) = 0 ∨ ∃ r3, a' = some ⟨r3, 0, none⟩ ∧ ∀ j, j < 4 * (n - cut) → wr.cell? ⟨r3, j, none⟩ = some (.int .u8 ((le4 id ++ ens xs).getD (4 + 4 * cut + j) 0))) := by
        by_cases h0 : 4 * (n - cut) = 0
        · exact .inl h0
        · obtain ⟨r3, ha3, _, _, hc3⟩ := HE3.out.form (by omega)
          refine .inr ⟨r3, ha3, fun j hj => ?_⟩
          rw [← back_at id xs cut j (by omega), ← HY.out]
          exact hc3 j (by omega)
      have KS := hid_mk (sl_below (sl_below HS.out HB5.out) (HB.out.mono hzr5))
      have KB : Hid (Below w.heap.size w wr) := HBw.out.trans ((HB5.out.mono (by omega)).trans (HB.out.mono (by omega)))
      clear HE hbl HB HB5 HC1' HC2 HX3 HS HSr HBw HY hyl
      go_wp2_with fail
      refine (bytes19 _ _ _ _ _ HE3.out).mono ?_
      rintro e w6 ⟨rfl, rfl⟩
      rw [Hbl.out]
      go_wp2_with fail
      refine (at20 r1 0 (4 + 4 * n) c1 0 _ id rfl wr hid0 hid1 (by omega) (by omega) ?_).mono ?_
      · intro j hj
        rw [Nat.zero_add, Nat.zero_add, K1.out j (by omega), whole_id id _ j hj]
      rintro e w6 ⟨rfl, rfl⟩
      go_wp2
      go_loop [17] (fun i => ∃ k : Nat, k ≤ n ∧ i = .int .i64 k) (fun i => n - (intOf i).toNat)
      case atStart => exact ⟨0, Nat.zero_le _, rfl⟩
      case round =>
        obtain ⟨k, hk, rfl⟩ := hrel
        by_cases hlt2 : k < n
        · rcases KS.out with h0 | ⟨b, o, ha, hbg, hc⟩
          · omega
          subst ha
          have hcr := hc k hlt2
          have hi : (k : Int) < (n : Int) := by omega
          have hxk : k < xs.length := by omega
          have hub := u32_bounds xs[k]
          clear hc
          go_wp2_with fail
          refine (at20 r1 0 (4 + 4 * n) c1 (4 + 4 * k) _ _ ?_ wr hub.1 hub.2 (by omega) (by omega) ?_).mono ?_
          · omega
          · intro j hj
            rw [Nat.zero_add, K1.out (4 + 4 * k + j) (by omega), whole_at id xs k j hxk hj]
          rintro e w6 ⟨rfl, rfl⟩
          go_wp2
          go_round
          case rel => exact ⟨k + 1, by omega, by go_num⟩
          case measure => simp [intOf]; omega
        · go_wp2
          obtain ⟨wo, hwo⟩ : ∃ wo : World, wo = wr := ⟨_, rfl⟩
          subst hwo
          go_loopw [18] (fun i wx => ∃ k q : Nat, k ≤ 4 + 4 * cut ∧ i = .int .i64 k ∧ wx = wo.drewN q) (fun i _ => 4 + 4 * cut - (intOf i).toNat)
          case atStart => exact ⟨0, 0, Nat.zero_le _, rfl, rfl⟩
          case round =>
            obtain ⟨k3, q3, hk3, rfl, rfl⟩ := hrel
            by_cases hlt3 : k3 < 4 + 4 * cut
            · have hc1 := K1.out k3 (by omega)
              have hc2 := K2.out k3 hlt3
              have hi1 : (k3 : Int) < ((4 + 4 * cut : Nat) : Int) := by omega
              have hi2 : (k3 : Int) < ((4 + 4 * n : Nat) : Int) := by omega
              go_wp2
              go_quiet (fail)
              go_wp2
              go_roundw
              case rel => exact ⟨k3 + 1, q3 + nq, by omega, by go_num, by simp⟩
              case measure => simp [intOf]; omega
            · go_wp2
              go_loopw [19] (fun i wx => ∃ k q : Nat, k ≤ 4 * (n - cut) ∧ i = .int .i64 k ∧ wx = wo.drewN q) (fun i _ => 4 * (n - cut) - (intOf i).toNat)
              case atStart => exact ⟨0, q3, Nat.zero_le _, rfl, rfl⟩
              case round =>
                obtain ⟨k4, q4, hk4, rfl, rfl⟩ := hrel
                by_cases hlt4 : k4 < 4 * (n - cut)
                · rcases K3.out with h0 | ⟨r3, ha3, hc3⟩
                  · omega
                  subst ha3
                  have hc1 := K1.out (4 + 4 * cut + k4) (by omega)
                  have hc2 := hc3 k4 hlt4
                  have hi1 : (k4 : Int) < ((4 * (n - cut) : Nat) : Int) := by omega
                  have hi2 : ((4 + 4 * cut : Nat) : Int) + (k4 : Int) < ((4 + 4 * n : Nat) : Int) := by omega
                  clear hc3
                  go_wp2
                  go_quiet (fail)
                  go_wp2
                  go_roundw
                  case rel => exact ⟨k4 + 1, q4 + nq, by omega, by go_num, by simp⟩
                  case measure => simp [intOf]; omega
                · go_wp2
                  go_ret
                  exact ⟨rfl, below_drewN KB.out q4⟩
end Go.Proofs.Qxb6613120a
