/-
  The walk of FnPutInt256AgreesWithFourLongs.
-/
import Derived.Test.Qxb6613120aWord
namespace Go.Proofs.Qxb6613120a
open Go.RowKit

/-- The load of a whole array at an operation that is wanted, guarded or not. -/
theorem wpList_load_row_if {P : Program} {ops : Array Oper} {rest : List Oper} {o : Oper} {a : Act} {w : World} {Q : Exit → Act → World → Prop} (hw : Region.wanted o (yielded ops a.tmps) = true) (ty : TypeId) (x : Operand) (ho : o.op = .load ty x)
    (g : Nat) (hx : a.eval x = .pointer (some ⟨g, 0, none⟩)) (t : TypeId) (cs : Array Value) (fr : Nat × Nat) (d : TypeDesc) (hg : w.heap[g]? = some (.cells cs t fr))
    (hu : P.underlying ty = some d) (hd : (match d with | .struct _ | .array _ _ => true | _ => false) = true) (hi : (P.info? ty).map (·.size) = some cs.size)
    (h : wpList P ops Q rest (a.put o.dst (.agg cs)) w) : wpList P ops Q (o :: rest) a w :=
  wpList_step fun K hK => by rw [if_pos hw]; exact wp_load_row ty x ho g hx t cs fr d hg hu hd hi (hK _ _ h)

theorem take_step (vs : List Int) (m : Nat) (hm : m < vs.length) : vs.take (m + 1) = vs.take m ++ [vs.getD m 0] := by
  rw [List.take_succ_eq_append_getElem hm]
  simp [hm]

theorem take_le8 (vs : List Int) (k : Nat) (hk : k < 4) (hvs : vs.length = 32) (hby : ∀ j, 0 ≤ vs.getD j 0 ∧ vs.getD j 0 ≤ 255) : vs.take (8 * k) ++ le8 (wd vs k 8) = vs.take (8 * (k + 1)) := by
  rw [le8_wd vs k hby, show 8 * (k + 1) = 8 * k + 7 + 1 by omega]
  rw [take_step vs (8 * k + 7) (by omega), take_step vs (8 * k + 6) (by omega), take_step vs (8 * k + 5) (by omega), take_step vs (8 * k + 4) (by omega), take_step vs (8 * k + 3) (by omega), take_step vs (8 * k + 2) (by omega), take_step vs (8 * k + 1) (by omega), take_step vs (8 * k) (by omega)]
  simp only [List.append_assoc, List.cons_append, List.nil_append]

theorem wd_put (vs : List Int) (k : Nat) (hby : ∀ j, 0 ≤ vs.getD j 0 ∧ vs.getD j 0 ≤ 255) : IntKind.u64.wrap (wrap64 (wd vs k 8)) = wd vs k 8 := by
  have hw8 := wd_bd vs k hby 8
  have h8 : (256 : Int) ^ 8 = 18446744073709551616 := by decide
  have e : ∀ n, IntKind.u64.wrap n = n % 18446744073709551616 := fun n => by simp [IntKind.wrap, IntKind.bits, IntKind.signed]
  rw [e]
  unfold wrap64
  omega

set_option maxHeartbeats 1000000 in
theorem four_any (vs : List Int) (w : World) (hvs : vs.length = 32) (hby : ∀ j, 0 ≤ vs.getD j 0 ∧ vs.getD j 0 ≤ 255) :
    Calls Try.prog 7 #[.agg (arr vs)] w fun e w' => e = .returned (.bool true) ∧ Below w.heap.size w w' := by
  have hV : (arr vs).size = 32 := by simp [arr, hvs]
  have hi45 : Hid ((Try.prog.info? 45).map (·.size) = some (arr vs).size) := by unfold Hid; rw [hV]; kernel_rfl
  have hG := hid_mk (Below.heap_alloc (w.alloc (.cells (arr vs) 45)) (.cells #[.slice none 0 0, .nilIface] 41) w.heap.size (by simp))
  have E0 : Hid (Enc ((w.alloc (.cells (arr vs) 45)).alloc (.cells #[.slice none 0 0, .nilIface] 41)) (w.heap.size + 1) none 0 []) := by
    have := Enc.fresh (w.alloc (.cells (arr vs) 45))
    rw [World.size_alloc] at this
    exact this
  have Hby := hid_mk hby
  clear hby
  go_enter Try.func7, Try.ntmps7
  go_wp2_with (refine wpList_load_row rfl 45 _ rfl w.heap.size rfl 45 (arr vs) (0, 0) _ (hG.out.trans (heap_alloc_new w _)) Try.underlying45 rfl hi45.out ?_)
  refine (put25 (w.heap.size + 1) none 0 [] vs _ E0.out hvs (by simp)).mono ?_
  rintro e w1 ⟨rfl, ⟨a1, c1, hE1⟩, hb1, _, _⟩
  rw [List.nil_append] at hE1
  have hsz : w.heap.size + 2 ≤ w1.heap.size := by have := hb1.size; simp at this; omega
  have hG1 : Hid (w1.heap[w.heap.size]? = some (.cells (arr vs) 45 (0, 0))) := (hb1.block _ (by omega)).trans (hG.out.trans (heap_alloc_new w _))
  have hB1 : Hid (Below w.heap.size w w1) := Below.trans (((Below.refl _ _).alloc (Nat.le_refl _) _).alloc (by simp) _) (hb1.mono (by omega))
  obtain ⟨r1, rfl, hr1, hr1', hcell1⟩ := hE1.form (by omega)
  have HE1 := hid_mk hE1
  have Hc1 := hid_mk hcell1
  clear hE1 hb1 hG E0 hcell1
  go_wp2
  go_loopw [5] (fun i wr => ∃ (k : Nat) (a : Option Addr) (c : Nat), k ≤ 4 ∧ i = .int .i64 k ∧ Enc wr w1.heap.size a c (vs.take (8 * k)) ∧ Below w1.heap.size w1 wr) (fun i _ => 4 - (intOf i).toNat)
  case atStart => exact ⟨0, none, 0, by omega, rfl, Enc.fresh w1, (Below.refl _ _).alloc (Nat.le_refl _) _⟩
  case round =>
    obtain ⟨k, a, c, hk, rfl, hE, hB⟩ := hrel
    have hGr := hid_mk ((hB.block w.heap.size (by omega)).trans hG1.out)
    have HE := hid_mk hE
    have HB := hid_mk hB
    have hszr := hB.size
    clear hE hB
    by_cases hlt : k < 4
    · go_wp2_with (refine wpList_load_row rfl 45 _ rfl w.heap.size rfl 45 (arr vs) (0, 0) _ hGr.out Try.underlying45 rfl hi45.out ?_)
      refine (word30 vs k _ rfl hlt _ hvs Hby.out).mono ?_
      rintro e w2 ⟨rfl, rfl⟩
      go_wp2_with fail
      refine (put23 w1.heap.size a c _ _ _ (HE.out.alloc _) ?_).mono ?_
      · simp; omega
      rintro e w2 ⟨rfl, ⟨a', c', hE'⟩, hb'⟩
      rw [wd_put vs k Hby.out, take_le8 vs k hlt hvs Hby.out] at hE'
      have HE' := hid_mk hE'
      have HB' := hid_mk (Below.trans (HB.out.alloc hszr _) hb')
      clear hE' hb'
      go_wp2
      go_roundw
      case rel => exact ⟨k + 1, a', c', by omega, by go_num, HE'.out, HB'.out⟩
      case measure => simp [intOf]; omega
    · have hk4 : k = 4 := by omega
      subst hk4
      have HE2 : Hid (Enc wr w1.heap.size a c vs) := by
        have := HE.out
        rw [List.take_of_length_le (by omega)] at this
        exact this
      have HE1r := hid_mk (HE1.out.below HB.out)
      obtain ⟨r2, hr2⟩ := HE2.out.form (by omega)
      obtain ⟨rfl, hr2, hr2', hcell2⟩ := hr2
      have Hc2 := hid_mk hcell2
      have Hc1r : Hid (∀ j, j < vs.length → wr.cell? ⟨r1, j, none⟩ = some (.int .u8 (vs.getD j 0))) := fun j hj => (HB.out.cell (p := ⟨r1, j, none⟩) hr1').trans (Hc1.out j hj)
      have hl32 : ((vs.length : Int) == 32) = true := by simp; omega
      clear hcell2
      go_wp2_with fail
      refine (bytes19 _ _ _ _ _ HE1r.out).mono ?_
      rintro e w2 ⟨rfl, rfl⟩
      go_wp2_with fail
      refine (bytes19 _ _ _ _ _ HE2.out).mono ?_
      rintro e w2 ⟨rfl, rfl⟩
      go_wp2_with (refine wpList_load_row_if (by rfl) 45 _ rfl w.heap.size rfl 45 (arr vs) (0, 0) _ hGr.out Try.underlying45 rfl hi45.out ?_)
      refine (at26 r1 0 32 c1 0 _ rfl vs wr (by omega) hvs (by omega) (by omega) ?_).mono ?_
      · intro j hj; rw [Nat.zero_add, Nat.zero_add]; exact Hc1r.out j (by omega)
      rintro e w2 ⟨rfl, q, rfl⟩
      go_wp2_with fail
      refine (eq12 r1 0 c1 r2 0 c 32 vs _ (by omega) ?_ ?_).mono ?_
      · intro j hj; rw [Nat.zero_add]; exact (World.cell?_alloc_lt _ _ _ (by show r1 < _; omega)).trans (Hc1r.out j (by omega))
      · intro j hj; rw [Nat.zero_add]; exact (World.cell?_alloc_lt _ _ _ (by show r2 < _; omega)).trans (Hc2.out j (by omega))
      rintro e w2 ⟨rfl, q', rfl⟩
      go_wp2
      go_ret
      exact ⟨rfl, below_drewN (((hB1.out.trans (HB.out.mono (by omega))).alloc (by omega) _)) (q + q')⟩
end Go.Proofs.Qxb6613120a
