/-
  The walk of FnCompoundSizeSplitsAtAnyCut.
-/
import Derived.Test.Qxb6613763aSize
namespace Go.Proofs.Qxb6613763a
open Go.RowKit

theorem len8 (a : Option Addr) (n c : Nat) (k : Int) (r : Bool) (w : World) (hn : n ≤ 9223372036854775807) :
    Calls Try.prog 8 #[.slice a n c, .int .i64 k, .bool r] w fun e w' => e = .returned (.bool (decide (n ≤ 1048576))) ∧ w = w' := by
  by_cases h : n ≤ 1048576
  · go_enter Try.func8, Try.ntmps8
    go_wp2
    go_ret
    exact ⟨by simp [h], rfl⟩
  · go_enter Try.func8, Try.ntmps8
    go_wp2
    go_ret
    exact ⟨by simp [h], rfl⟩

theorem split_long (a : Option Addr) (n c : Nat) (k : Int) (r : Bool) (w : World) (hn : n ≤ 9223372036854775807) (h : 4096 < n) :
    Calls Try.prog 3 #[.slice a n c, .int .i64 k, .bool r] w fun e w' => e = .returned (.bool true) ∧ Below w.heap.size w w' := by
  by_cases h2 : n ≤ 1048576
  · have hd : decide (n ≤ 1048576) = true := decide_eq_true h2
    go_enter Try.func3, Try.ntmps3
    go_wp2_with (go_at_call 8; refine (len8 _ _ _ _ _ _ (by omega)).mono ?_; rintro e w' ⟨rfl, rfl⟩)
    go_ret
    exact ⟨rfl, Below.refl _ _⟩
  · have hd : decide (n ≤ 1048576) = false := decide_eq_false h2
    go_enter Try.func3, Try.ntmps3
    go_wp2_with (go_at_call 8; refine (len8 _ _ _ _ _ _ (by omega)).mono ?_; rintro e w' ⟨rfl, rfl⟩)
    go_ret
    exact ⟨rfl, Below.refl _ _⟩

theorem split_out (a : Option Addr) (n c : Nat) (k : Int) (r : Bool) (w : World) (hn : n ≤ 4096) (h : k < 0 ∨ (n : Int) < k) :
    Calls Try.prog 3 #[.slice a n c, .int .i64 k, .bool r] w fun e w' => e = .returned (.bool true) ∧ Below w.heap.size w w' := by
  have hd : decide (n ≤ 1048576) = true := decide_eq_true (by omega)
  rcases h with h | h
  · have h' : decide (k < 0) = true := decide_eq_true h
    go_enter Try.func3, Try.ntmps3
    go_wp2_with (go_at_call 8; refine (len8 _ _ _ _ _ _ (by omega)).mono ?_; rintro e w' ⟨rfl, rfl⟩)
    go_ret
    exact ⟨rfl, Below.refl _ _⟩
  · have h' : decide (k < 0) = false := decide_eq_false (by omega)
    go_enter Try.func3, Try.ntmps3
    go_wp2_with (go_at_call 8; refine (len8 _ _ _ _ _ _ (by omega)).mono ?_; rintro e w' ⟨rfl, rfl⟩)
    go_ret
    exact ⟨rfl, Below.refl _ _⟩

theorem slice_head (a : Option Addr) (n c cut : Nat) (hc : cut ≤ c) (w : World) :
    (Instr.slice 24 (.slice a n c) none (some (.int .i64 cut)) none).run Try.prog w = .ok (.slice a cut c) w := by
  obtain ⟨i0, hi, _, hz1, _⟩ := info_parts info79
  simp [Instr.slice, Instr.sliceBounds, Instr.sliceBound, asIntOf, run_underlying Try.underlying24, sizeOf, typeInfo, hi, go_sem]
  intro h
  omega
theorem slice_rear (a : Option Addr) (n c cut : Nat) (hcut : cut ≤ n) (w : World) :
    (Instr.slice 24 (.slice a n c) (some (.int .i64 cut)) none none).run Try.prog w = .ok (.slice (if c = cut then a else a.map (·.add (cut * 47))) (n - cut) (c - cut)) w := by
  obtain ⟨i0, hi, _, hz1, _⟩ := info_parts info79
  simp [Instr.slice, Instr.sliceBounds, Instr.sliceBound, asIntOf, run_underlying Try.underlying24, sizeOf, typeInfo, hi, hz1, go_sem]
  intro h
  omega

theorem ps_below {w w' : World} {a : Option Addr} {n : Nat} {ls : List Int} (h : Ps w a n ls) (hb : Below w.heap.size w w') : Ps w' a n ls := by
  rcases h with h | ⟨b, o, ha, hbg, hc⟩
  · exact .inl h
  · exact .inr ⟨b, o, ha, Nat.lt_of_lt_of_le hbg hb.size, fun i hi => (hb.cell (p := ⟨b, o + i * 47 + 3, none⟩) hbg).trans (hc i hi)⟩

set_option maxHeartbeats 4000000 in
theorem split_core (a0 a ar : Option Addr) (n c0 cut : Nat) (red : Bool) (ls : List Int) (w : World) (hn : n ≤ 4096) (hcut : cut ≤ n) (hln : ls.length = n) (hb : ∀ x ∈ ls, 0 ≤ x ∧ x ≤ 65535) (hs : Sl w a0 n ls)
    (hpk : Calls Try.prog 9 #[.slice a0 n c0] w fun e w' => e = .returned (.slice a n n) ∧ Below w.heap.size w w' ∧ w.heap.size < w'.heap.size ∧ Ps w' a n ls ∧ Ps w' a cut (ls.take cut) ∧ Ps w' ar (n - cut) (ls.drop cut))
    (hh : ∀ wx, (Instr.slice 24 (.slice a n n) none (some (.int .i64 cut)) none).run Try.prog wx = .ok (.slice a cut n) wx)
    (hr : ∀ wx, (Instr.slice 24 (.slice a n n) (some (.int .i64 cut)) none none).run Try.prog wx = .ok (.slice ar (n - cut) (n - cut)) wx) :
    Calls Try.prog 3 #[.slice a0 n c0, .int .i64 cut, .bool red] w fun e w' => e = .returned (.bool true) ∧ Below w.heap.size w w' := by
  have hd : decide (n ≤ 1048576) = true := decide_eq_true (by omega)
  have hd0 : decide ((cut : Int) < 0) = false := decide_eq_false (by omega)
  have HP := hid_mk hpk
  have HS := hid_mk hs
  have Hb := hid_mk hb
  clear hpk hs hb
  go_enter Try.func3, Try.ntmps3
  go_wp2_with (first | (go_at_call 8; refine (len8 _ _ _ _ _ _ (by omega)).mono ?_; rintro e w' ⟨rfl, rfl⟩))
  refine HP.out.mono ?_
  rintro e W1 ⟨rfl, hB, hz, hp1, hp2, hp3⟩
  have HB := hid_mk hB
  have H1 := hid_mk hp1
  have H2 := hid_mk hp2
  have H3 := hid_mk hp3
  clear hB hp1 hp2 hp3 HP
  go_wp2
  obtain ⟨W4, hW4⟩ : ∃ W4, W4 = ((W1.alloc (.cells #[.slice a n n, .bool red] 27)).alloc (.cells #[.slice a cut n, .bool red] 27)).alloc (.cells #[.slice ar (n - cut) (n - cut), .bool red] 27) := ⟨_, rfl⟩
  have hB4 : Below W1.heap.size W1 W4 := by
    rw [hW4]
    exact (((Below.refl _ _).alloc (Nat.le_refl _) _).alloc (by simp) _).alloc (by simp; omega) _
  have c1 : W4.cell? ⟨W1.heap.size, 0, none⟩ = some (.slice a n n) := by
    rw [hW4, World.cell?_alloc_lt _ _ _ (by simp; omega), World.cell?_alloc_lt _ _ _ (by simp), World.cell?_alloc_new]; rfl
  have c2 : W4.cell? ⟨W1.heap.size + 1, 0, none⟩ = some (.slice a cut n) := by
    rw [hW4, World.cell?_alloc_lt _ _ _ (by simp), World.cell?_alloc2_new]; rfl
  have c3 : W4.cell? ⟨W1.heap.size + 1 + 1, 0, none⟩ = some (.slice ar (n - cut) (n - cut)) := by
    have := World.cell?_alloc_new ((W1.alloc (.cells #[.slice a n n, .bool red] 27)).alloc (.cells #[.slice a cut n, .bool red] 27)) #[.slice ar (n - cut) (n - cut), .bool red] 27 0
    rw [World.size_alloc, World.size_alloc] at this
    rw [hW4]; exact this
  have C1 := hid_mk c1
  have C2 := hid_mk c2
  have C3 := hid_mk c3
  have P1 := hid_mk (ps_below H1.out hB4)
  have P2 := hid_mk (ps_below H2.out hB4)
  have P3 := hid_mk (ps_below H3.out hB4)
  have HB4 : Hid (Below w.heap.size w W4) := HB.out.trans (hB4.mono (by omega))
  rw [← hW4]
  clear hW4 hB4 c1 c2 c3 H1 H2 H3 HB hh hr hz
  go_loop [11, 12] (fun t i => ∃ k : Nat, k ≤ n ∧ i = .int .i64 k ∧ t = .int .i64 (4 * (n : Int) + tw (ls.take k))) (fun _ i => n - (intOf i).toNat)
  case atStart => exact ⟨0, Nat.zero_le _, rfl, by simp [tw]⟩
  case round =>
    obtain ⟨k, hk, rfl, rfl⟩ := hrel
    by_cases hlt : k < n
    · rcases HS.out with h0 | ⟨b, o, ha, hbg, hc⟩
      · omega
      subst ha
      have hlk : k < ls.length := by omega
      have hcr : W4.cell? ⟨b, o + k, none⟩ = some (.int .u16 ls[k]) := by
        have := (HB4.out.cell (p := ⟨b, o + k, none⟩) hbg).trans (hc k hlt)
        simpa [hlk] using this
      have hi1 : (k : Int) < (n : Int) := by omega
      have hx := Hb.out ls[k] (List.getElem_mem hlk)
      have hbd := tw_bd (ls.take k) fun x hx => Hb.out x (List.mem_of_mem_take hx)
      have hlt' : (ls.take k).length = k := by simp; omega
      rw [hlt'] at hbd
      clear hc hlt'
      go_wp2
      go_round
      case rel => exact ⟨k + 1, by omega, by go_num, by rw [tw_step ls k hlk]; go_num⟩
      case measure => simp [intOf]; omega
    · have hkn : n = k := by omega
      subst hkn
      have hT : tot ls = 4 * (n : Int) + tw (ls.take n) := by
        rw [List.take_of_length_le (by omega), tot_tw, hln]
      have hS : tot ls = tot (ls.take cut) + tot (ls.drop cut) := by rw [← tot_append, List.take_append_drop]
      have b1 := tot_bd (ls.take cut) fun x hx => Hb.out x (List.mem_of_mem_take hx)
      have b2 := tot_bd (ls.drop cut) fun x hx => Hb.out x (List.mem_of_mem_drop hx)
      have l1 : (ls.take cut).length = cut := by simp; omega
      have l2 : (ls.drop cut).length = n - cut := by simp; omega
      rw [l1] at b1
      rw [l2] at b2
      have L1 := hid_mk l1
      have L2 := hid_mk l2
      have e1 : (tot ls == tot (ls.take cut) + tot (ls.drop cut)) = true := by simpa using hS
      have e2 : (tot ls == 4 * (n : Int) + tw (ls.take n)) = true := by simpa using hT
      clear hT hS l1 l2 HS
      go_wp2_with fail
      refine (size10 W1.heap.size a n n ls W4 C1.out P1.out hln hn Hb.out).mono ?_
      rintro e w5 ⟨rfl, rfl⟩
      go_wp2_with fail
      refine (size10 (W1.heap.size + 1) a cut n (ls.take cut) W4 C2.out P2.out L1.out (by omega) fun x hx => Hb.out x (List.mem_of_mem_take hx)).mono ?_
      rintro e w5 ⟨rfl, rfl⟩
      go_wp2_with fail
      refine (size10 (W1.heap.size + 1 + 1) ar (n - cut) (n - cut) (ls.drop cut) W4 C3.out P3.out L2.out (by omega) fun x hx => Hb.out x (List.mem_of_mem_drop hx)).mono ?_
      rintro e w5 ⟨rfl, rfl⟩
      go_wp2
      go_ret
      exact ⟨rfl, HB4.out⟩
end Go.Proofs.Qxb6613763a
