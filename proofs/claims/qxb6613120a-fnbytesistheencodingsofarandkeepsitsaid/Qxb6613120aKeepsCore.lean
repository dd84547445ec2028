/-
  The walk of FnBytesIsTheEncodingSoFarAndKeepsIt: its core.
-/
import Derived.Test.Qxb6613120aKeepsWalk
namespace Go.Proofs.Qxb6613120a
open Go.RowKit

theorem size45 (vs : List Int) (hvs : vs.length = 32) : (Try.prog.info? 45).map (·.size) = some (arr vs).size := by
  have hV : (arr vs).size = 32 := by simp [arr, hvs]
  rw [hV]
  show (Try.prog.info? 45).map (·.size) = some 32
  kernel_rfl

theorem keeps_long (a : Option Addr) (n c : Nat) (vs : List Int) (w : World) (hvs : vs.length = 32) (hn : n ≤ 9223372036854775807) (h : 131072 < n) :
    Calls Try.prog 5 #[.slice a n c, .agg (arr vs)] w fun e w' => e = .returned (.bool true) ∧ Below w.heap.size w w' := by
  have hV : (arr vs).size = 32 := by simp [arr, hvs]
  have hi45 := hid_mk (size45 vs hvs)
  by_cases h2 : n ≤ 1048576
  · have hd : decide (n ≤ 1048576) = true := decide_eq_true h2
    go_enter Try.func5, Try.ntmps5
    go_wp2_with (first | (refine wpList_load_row rfl 45 _ rfl w.heap.size rfl 45 (arr vs) (0, 0) _ (heap_alloc_new w _) Try.underlying45 rfl hi45.out ?_) | (go_at_call 21; refine (len21 _ _ _ _ _ (by omega)).mono ?_; rintro e w' ⟨rfl, rfl⟩))
    go_ret
    exact ⟨rfl, ((Below.refl _ _).alloc (Nat.le_refl _) _).alloc (by simp) _⟩
  · have hd : decide (n ≤ 1048576) = false := decide_eq_false h2
    go_enter Try.func5, Try.ntmps5
    go_wp2_with (first | (refine wpList_load_row rfl 45 _ rfl w.heap.size rfl 45 (arr vs) (0, 0) _ (heap_alloc_new w _) Try.underlying45 rfl hi45.out ?_) | (go_at_call 21; refine (len21 _ _ _ _ _ (by omega)).mono ?_; rintro e w' ⟨rfl, rfl⟩))
    go_ret
    exact ⟨rfl, ((Below.refl _ _).alloc (Nat.le_refl _) _).alloc (by simp) _⟩

set_option maxHeartbeats 4000000 in
theorem keeps_core (a0 a : Option Addr) (n c0 cc : Nat) (xs vs : List Int) (w W1 : World) (hn : n ≤ 131072) (hxn : xs.length = n) (hvs : vs.length = 32)
    (hclone : Calls Try.prog 22 #[.slice a0 n c0] ((w.alloc (.cells (arr vs) 45)).alloc (.cells (arr vs) 45)) fun e w' => e = .returned (.slice a n cc) ∧ W1 = w')
    (hB1 : Below (w.heap.size + 1) ((w.alloc (.cells (arr vs) 45)).alloc (.cells (arr vs) 45)) W1)
    (hs : Sl .i64 W1 W1.heap.size a n xs) :
    Calls Try.prog 5 #[.slice a0 n c0, .agg (arr vs)] w fun e w' => e = .returned (.bool true) ∧ Below w.heap.size w w' := by
  have hV : (arr vs).size = 32 := by simp [arr, hvs]
  have hi45 := hid_mk (size45 vs hvs)
  have hd : decide (n ≤ 1048576) = true := decide_eq_true (by omega)
  have HC := hid_mk hclone
  have hXl : w.heap.size + 2 ≤ W1.heap.size := by have := hB1.size; simp at this; omega
  have HG1 : Hid (W1.heap[w.heap.size]? = some (.cells (arr vs) 45 (0, 0))) := (hB1.block _ (by omega)).trans ((Below.heap_alloc _ _ _ (by simp)).trans (heap_alloc_new w _))
  have HBw : Hid (Below w.heap.size w W1) := (((Below.refl _ _).alloc (Nat.le_refl _) _).alloc (by simp) _).trans (hB1.mono (by omega))
  have HS := hid_mk hs
  clear hclone hB1 hs
  go_enter Try.func5, Try.ntmps5
  go_wp2_with (first | (refine wpList_load_row rfl 45 _ rfl w.heap.size rfl 45 (arr vs) (0, 0) _ (heap_alloc_new w _) Try.underlying45 rfl hi45.out ?_) | (go_at_call 21; refine (len21 _ _ _ _ _ (by omega)).mono ?_; rintro e w' ⟨rfl, rfl⟩) | (go_at_call 22; refine HC.out.mono ?_; rintro e w' ⟨rfl, rfl⟩))
  refine (bytes19 _ _ _ _ _ (Enc.fresh W1)).mono ?_
  rintro e w2 ⟨rfl, rfl⟩
  go_wp2
  go_loopw [8] (fun i wr => ∃ (k : Nat) (a' : Option Addr) (c' : Nat), k ≤ n ∧ i = .int .i64 k ∧ Enc wr W1.heap.size a' c' (enl (xs.take k)) ∧ Below W1.heap.size W1 wr) (fun i _ => n - (intOf i).toNat)
  case atStart => exact ⟨0, none, 0, Nat.zero_le _, rfl, Enc.fresh W1, (Below.refl _ _).alloc (Nat.le_refl _) _⟩
  case round =>
    obtain ⟨k, a', c', hk, rfl, hE, hB⟩ := hrel
    have HE := hid_mk hE
    have HB := hid_mk hB
    clear hE hB
    by_cases hlt' : k < n
    · rcases HS.out with h0 | ⟨b, o, ha, hbg, hc⟩
      · omega
      subst ha
      have hcr := (HB.out.cell (p := ⟨b, o + k, none⟩) hbg).trans (hc k hlt')
      have hi : (k : Int) < (n : Int) := by omega
      clear hc
      go_wp2_with fail
      refine (put23 W1.heap.size a' c' _ _ _ HE.out ?_).mono ?_
      · rw [enl_len, List.length_take]
        omega
      rintro e w6 ⟨rfl, ⟨a2, c2', hE2⟩, hB2⟩
      rw [← enl_step xs k (by omega)] at hE2
      have HE2 := hid_mk hE2
      have HB2 := hid_mk (HB.out.trans hB2)
      clear hE2 hB2
      go_wp2
      go_roundw
      case rel => exact ⟨k + 1, a2, c2', by omega, by go_num, HE2.out, HB2.out⟩
      case measure => simp [intOf]; omega
    · have hkn : n = k := by omega
      subst hkn
      have HE3 : Hid (Enc wr W1.heap.size a' c' (enl xs)) := by
        have := HE.out
        rw [List.take_of_length_le (by omega)] at this
        exact this
      have Hbl : Hid ((enl xs).length = 8 * n) := by unfold Hid; rw [enl_len, hxn]
      have HBS : Hid (BS wr a' (8 * n) (enl xs)) := by
        have := HE3.out.bs
        rw [Hbl.out] at this
        exact this
      have hzr := HB.out.size
      have HGr : Hid (wr.heap[w.heap.size]? = some (.cells (arr vs) 45 (0, 0))) := (HB.out.block _ (by omega)).trans HG1.out
      have KS := hid_mk (sl_below HS.out HB.out)
      have KB : Hid (Below w.heap.size w wr) := HBw.out.trans (HB.out.mono (by omega))
      clear HE HB HG1 HS HBw
      go_wp2_with fail
      refine (bytes19 _ _ _ _ _ HE3.out).mono ?_
      rintro e w6 ⟨rfl, rfl⟩
      rw [Hbl.out]
      go_wp2_with fail
      refine (bytes19 _ _ _ _ _ HE3.out).mono ?_
      rintro e w6 ⟨rfl, rfl⟩
      rw [Hbl.out]
      go_wp2_with fail
      refine (eq_bs _ _ _ _ _ _ (enl xs) (by omega) HBS.out HBS.out).mono ?_
      rintro e w6 ⟨rfl, q1, rfl⟩
      go_wp2
      go_loop [13] (fun i => ∃ k : Nat, k ≤ n ∧ i = .int .i64 k) (fun i => n - (intOf i).toNat)
      case atStart => exact ⟨0, Nat.zero_le _, rfl⟩
      case round =>
        obtain ⟨k, hk2, rfl⟩ := hrel
        by_cases hlt2 : k < n
        · rcases KS.out with h0 | ⟨b, o, ha, hbg, hc⟩
          · omega
          subst ha
          rcases HBS.out with h0 | ⟨r, ha', hr, hcb⟩
          · omega
          subst ha'
          have Hcb := hid_mk hcb
          have hcr := hc k hlt2
          have hi : (k : Int) < (n : Int) := by omega
          have hxk : k < xs.length := by omega
          have hub := u64_bounds xs[k]
          have Hub := hid_mk hub
          clear hc hcb hub
          go_wp2_with fail
          refine (at24 r 0 (8 * n) c' (8 * k) _ _ ?_ _ Hub.out.1 Hub.out.2 (by omega) (by omega) ?_).mono ?_
          · omega
          · intro j hj
            rw [Nat.zero_add, World.cell?_drewN, Hcb.out (8 * k + j) (by omega), enl_at xs k j hxk hj]
          rintro e w6 ⟨rfl, rfl⟩
          go_wp2
          go_round
          case rel => exact ⟨k + 1, by omega, by go_num⟩
          case measure => simp [intOf]; omega
        · clear KS
          go_wp2_with fail
          rw [← Hbl.out]
          refine (clone_enc (wr.drewN q1) W1.heap.size a' c' (enl xs) (HE3.out.drewN q1) (by rw [Hbl.out]; omega)).mono ?_
          rintro e w7 ⟨ak, ck, rfl, hB7, hk7⟩
          rw [Hbl.out] at hk7 ⊢
          have hz7 := hB7.size
          have HB7 := hid_mk hB7
          have HK7 := hid_mk hk7
          have HE7 := hid_mk ((HE3.out.drewN q1).below hB7)
          have HG7 : Hid (w7.heap[w.heap.size]? = some (.cells (arr vs) 45 (0, 0))) := (hB7.block _ (by rw [World.heap_drewN]; omega)).trans HGr.out
          rw [World.heap_drewN] at hz7
          clear hB7 hk7
          go_wp2_with (refine wpList_load_row rfl 45 _ rfl w.heap.size rfl 45 (arr vs) (0, 0) _ HG7.out Try.underlying45 rfl hi45.out ?_)
          refine (put25 W1.heap.size a' c' (enl xs) vs w7 HE7.out hvs (by rw [Hbl.out]; omega)).mono ?_
          rintro e w8 ⟨rfl, ⟨a3, c3, hE8⟩, hB8, hkeep, hoth⟩
          have hl8 : (enl xs ++ vs).length = 8 * n + 32 := by rw [List.length_append, Hbl.out, hvs]
          have hkb : BS w8 a' (8 * n) (enl xs) := by
            have := bs_of_own hkeep
            rw [Hbl.out] at this
            exact this
          have hkk : BS w8 ak (8 * n) (enl xs) := by
            rcases HK7.out with h0 | ⟨r, ha, hr1, hr2, hc⟩
            · exact .inl h0
            · refine .inr ⟨r, ha, Nat.lt_of_lt_of_le hr2 hB8.size, fun j hj => ?_⟩
              rw [World.heap_drewN] at hr1
              have hne : some r ≠ (Value.slice a' (enl xs).length c').ownBlock := fun he => by
                have := (HE3.out.own.lt r he.symm).2
                omega
              exact (World.cell?_of_block (w := w7) (hoth r hr2 (by have := HE3.out.lt; omega) hne)).trans (hc j hj)
          obtain ⟨r3, ha3, _, hr3, hc3⟩ := hE8.form (by omega)
          subst ha3
          have hz8 := hB8.size
          have HE8 := hid_mk hE8
          have Hl8 := hid_mk hl8
          have Hkb := hid_mk hkb
          have Hkk := hid_mk hkk
          have Hc3 : Hid (∀ j, j < 8 * n + 32 → w8.cell? ⟨r3, j, none⟩ = some (.int .u8 ((enl xs ++ vs).getD j 0))) := fun j hj => hc3 j (by rw [hl8]; exact hj)
          have HG8 : Hid (w8.heap[w.heap.size]? = some (.cells (arr vs) 45 (0, 0))) := (hB8.block _ (by omega)).trans HG7.out
          have KB8 : Hid (Below w.heap.size w w8) := (below_drewN KB.out q1).trans ((HB7.out.mono (by rw [World.heap_drewN]; omega)).trans (hB8.mono (by omega)))
          clear hE8 hB8 hkeep hoth hl8 hkb hkk hc3 HG7 HB7 HK7 HE7 HE3 HGr HBS KB
          go_wp2_with fail
          refine (bytes19 _ _ _ _ _ HE8.out).mono ?_
          rintro e w9 ⟨rfl, rfl⟩
          rw [Hl8.out]
          go_wp2_with (refine wpList_load_row_if (by rfl) 45 _ rfl w.heap.size rfl 45 (arr vs) (0, 0) _ HG8.out Try.underlying45 rfl hi45.out ?_)
          refine (at26 r3 0 (8 * n + 32) c3 (8 * n) _ ?_ vs w8 hr3 hvs (by omega) (by omega) ?_).mono ?_
          · omega
          · intro j hj
            rw [Nat.zero_add, Hc3.out (8 * n + j) (by omega), ← Hbl.out, getD_right]
          rintro e w9 ⟨rfl, q2, rfl⟩
          go_wp2
          obtain ⟨w9, hw9⟩ : ∃ w9 : World, w9 = w8.alloc (.cells (arr vs) 45) := ⟨_, rfl⟩
          have hB9 : Below w8.heap.size w8 w9 := by rw [hw9]; exact (Below.refl _ _).alloc (Nat.le_refl _) _
          have L1 := hid_mk (Hkb.out.below hB9)
          have L2 := hid_mk (Hkk.out.below hB9)
          have L3 : Hid (∀ j, j < 8 * n → w9.cell? ⟨r3, j, none⟩ = some (.int .u8 ((enl xs).getD j 0))) := fun j hj => by
            rw [hB9.cell (p := ⟨r3, j, none⟩) hr3, Hc3.out j (by omega), getD_left _ _ _ (by rw [Hbl.out]; exact hj)]
          have KB9 : Hid (Below w.heap.size w w9) := KB8.out.trans (hB9.mono (by omega))
          clear hB9 Hkb Hkk Hc3 KB8 HG8 HE8
          rw [← hw9]
          clear hw9
          go_loopw [17] (fun i wx => ∃ k q : Nat, k ≤ 8 * n ∧ i = .int .i64 k ∧ wx = w9.drewN q) (fun i _ => 8 * n - (intOf i).toNat)
          case atStart => exact ⟨0, q2, Nat.zero_le _, rfl, rfl⟩
          case round =>
            obtain ⟨k3, q3, hk3, rfl, rfl⟩ := hrel
            by_cases hlt3 : k3 < 8 * n
            · rcases L2.out with h0 | ⟨r4, ha4, _, hc4⟩
              · omega
              subst ha4
              have hc1 := L3.out k3 hlt3
              have hc2 := hc4 k3 hlt3
              have hi1 : (k3 : Int) < ((8 * n + 32 : Nat) : Int) := by omega
              have hi2 : (k3 : Int) < ((8 * n : Nat) : Int) := by omega
              clear hc4
              go_wp2
              go_quiet (fail)
              go_wp2
              go_roundw
              case rel => exact ⟨k3 + 1, q3 + nq, by omega, by go_num, by simp⟩
              case measure => simp [intOf]; omega
            · go_wp2_with fail
              refine (eq_bs (w9.drewN q3) _ _ _ _ _ (enl xs) (by omega) L1.out L2.out).mono ?_
              rintro e w10 ⟨rfl, q4, rfl⟩
              go_wp2
              go_ret
              exact ⟨rfl, below_drewN KB9.out _⟩
end Go.Proofs.Qxb6613120a
