/-
  wire.Encode over each of the three closures.
-/
import Derived.Test.Qxb6613120aClo
namespace Go.Proofs.Qxb6613120a
open Go.RowKit

theorem sl_below {k : IntKind} {w w' : World} {g : Nat} {a : Option Addr} {n : Nat} {xs : List Int} (h : Sl k w g a n xs) (hb : Below g w w') : Sl k w' g a n xs := by
  rcases h with h | ⟨b, o, ha, hbg, hc⟩
  · exact .inl h
  · exact .inr ⟨b, o, ha, hbg, fun i hi => (hb.cell (p := ⟨b, o + i, none⟩) hbg).trans (hc i hi)⟩
theorem sl_mono {k : IntKind} {w : World} {g g' : Nat} {a : Option Addr} {n : Nat} {xs : List Int} (h : Sl k w g a n xs) (hg : g ≤ g') : Sl k w g' a n xs := by
  rcases h with h | ⟨b, o, ha, hbg, hc⟩
  · exact .inl h
  · exact .inr ⟨b, o, ha, by omega, hc⟩

set_option maxHeartbeats 1000000 in
theorem encode_16 (id : Int) (hid0 : 0 ≤ id) (hid1 : id < 4294967296) (X n c : Nat) (a : Option Addr) (xs : List Int) (w : World) (hX : w.cell? ⟨X, 0, none⟩ = some (.slice a n c)) (hs : Sl .i32 w w.heap.size a n xs) (hxn : xs.length = n) (hn : n ≤ 1048576) :
    Calls Try.prog 15 #[.int .u32 id, .func (.func 16) #[] #[.pointer (some ⟨X, 0, none⟩)]] w fun e w' => ∃ r c', e = .returned (.tuple #[.slice (some ⟨r, 0, none⟩) (4 + 4 * n) c', .nilIface]) ∧ w.heap.size ≤ r ∧ r < w'.heap.size ∧
      (∀ j, j < 4 + 4 * n → w'.cell? ⟨r, j, none⟩ = some (.int .u8 ((le4 id ++ ens xs).getD j 0))) ∧ Below w.heap.size w w' := by
  have hXl := World.block_lt_of_cell? _ _ hX
  have HX := hid_mk hX
  have HS := hid_mk hs
  have HP := hid_mk (put28 w.heap.size none 0 [] id (w.alloc (.cells #[.slice none 0 0, .nilIface] 41)) (Enc.fresh w) hid0 hid1 (by simp))
  clear hX hs
  go_enter Try.func15, Try.ntmps15
  go_wp2_with fail
  refine HP.out.mono ?_
  rintro e w1 ⟨rfl, ⟨a1, c1, hE1⟩, hB1⟩
  rw [List.nil_append] at hE1
  have HE1 := hid_mk hE1
  have HB1 : Hid (Below w.heap.size w w1) := Below.trans ((Below.refl _ _).alloc (Nat.le_refl _) _) hB1
  clear hE1 hB1 HP
  go_wp2_with fail
  refine (clo16 w.heap.size X n c c1 a a1 xs (le4 id) w1 HE1.out ((HB1.out.cell (p := ⟨X, 0, none⟩) hXl).trans HX.out) hXl (sl_below HS.out HB1.out) hxn hn (by simp [le4])).mono ?_
  rintro e w2 ⟨rfl, ⟨a2, c2, hE2⟩, hB2⟩
  have HE2 := hid_mk hE2
  have HB2 := hid_mk (HB1.out.trans hB2)
  have hlen : (le4 id ++ ens xs).length = 4 + 4 * n := by rw [List.length_append, ens_len, hxn]; rfl
  obtain ⟨r, ha2, hr, hr', hcell⟩ := hE2.form (by omega)
  have Hlen := hid_mk hlen
  have Hcell := hid_mk hcell
  subst ha2
  clear hE2 hB2 hcell hlen
  go_wp2_with fail
  refine (bytes19 _ _ _ _ _ HE2.out).mono ?_
  rintro e w3 ⟨rfl, rfl⟩
  rw [Hlen.out]
  go_wp2
  go_ret2
  exact ⟨r, c2, rfl, by omega, hr', fun j hj => Hcell.out j (by rw [Hlen.out]; exact hj), HB2.out⟩

set_option maxHeartbeats 1000000 in
theorem encode_18 (id : Int) (hid0 : 0 ≤ id) (hid1 : id < 4294967296) (X n c : Nat) (a : Option Addr) (xs : List Int) (w : World) (hX : w.cell? ⟨X, 0, none⟩ = some (.slice a n c)) (hs : Sl .i32 w w.heap.size a n xs) (hxn : xs.length = n) (hn : n ≤ 1048576) :
    Calls Try.prog 15 #[.int .u32 id, .func (.func 18) #[] #[.pointer (some ⟨X, 0, none⟩)]] w fun e w' => ∃ r c', e = .returned (.tuple #[.slice (some ⟨r, 0, none⟩) (4 + 4 * n) c', .nilIface]) ∧ w.heap.size ≤ r ∧ r < w'.heap.size ∧
      (∀ j, j < 4 + 4 * n → w'.cell? ⟨r, j, none⟩ = some (.int .u8 ((le4 id ++ ens xs).getD j 0))) ∧ Below w.heap.size w w' := by
  have hXl := World.block_lt_of_cell? _ _ hX
  have HX := hid_mk hX
  have HS := hid_mk hs
  have HP := hid_mk (put28 w.heap.size none 0 [] id (w.alloc (.cells #[.slice none 0 0, .nilIface] 41)) (Enc.fresh w) hid0 hid1 (by simp))
  clear hX hs
  go_enter Try.func15, Try.ntmps15
  go_wp2_with fail
  refine HP.out.mono ?_
  rintro e w1 ⟨rfl, ⟨a1, c1, hE1⟩, hB1⟩
  rw [List.nil_append] at hE1
  have HE1 := hid_mk hE1
  have HB1 : Hid (Below w.heap.size w w1) := Below.trans ((Below.refl _ _).alloc (Nat.le_refl _) _) hB1
  clear hE1 hB1 HP
  go_wp2_with fail
  refine (clo18 w.heap.size X n c c1 a a1 xs (le4 id) w1 HE1.out ((HB1.out.cell (p := ⟨X, 0, none⟩) hXl).trans HX.out) hXl (sl_below HS.out HB1.out) hxn hn (by simp [le4])).mono ?_
  rintro e w2 ⟨rfl, ⟨a2, c2, hE2⟩, hB2⟩
  have HE2 := hid_mk hE2
  have HB2 := hid_mk (HB1.out.trans hB2)
  have hlen : (le4 id ++ ens xs).length = 4 + 4 * n := by rw [List.length_append, ens_len, hxn]; rfl
  obtain ⟨r, ha2, hr, hr', hcell⟩ := hE2.form (by omega)
  have Hlen := hid_mk hlen
  have Hcell := hid_mk hcell
  subst ha2
  clear hE2 hB2 hcell hlen
  go_wp2_with fail
  refine (bytes19 _ _ _ _ _ HE2.out).mono ?_
  rintro e w3 ⟨rfl, rfl⟩
  rw [Hlen.out]
  go_wp2
  go_ret2
  exact ⟨r, c2, rfl, by omega, hr', fun j hj => Hcell.out j (by rw [Hlen.out]; exact hj), HB2.out⟩

set_option maxHeartbeats 1000000 in
theorem encode_29 (id : Int) (hid0 : 0 ≤ id) (hid1 : id < 4294967296) (X n c : Nat) (a : Option Addr) (xs : List Int) (w : World) (hX : w.cell? ⟨X, 0, none⟩ = some (.slice a n c)) (hs : Sl .i64 w w.heap.size a n xs) (hxn : xs.length = n) (hn : n ≤ 1048576) :
    Calls Try.prog 15 #[.int .u32 id, .func (.func 29) #[] #[.pointer (some ⟨X, 0, none⟩)]] w fun e w' => ∃ r c', e = .returned (.tuple #[.slice (some ⟨r, 0, none⟩) (4 + 8 * n) c', .nilIface]) ∧ w.heap.size ≤ r ∧ r < w'.heap.size ∧
      (∀ j, j < 4 + 8 * n → w'.cell? ⟨r, j, none⟩ = some (.int .u8 ((le4 id ++ enl xs).getD j 0))) ∧ Below w.heap.size w w' := by
  have hXl := World.block_lt_of_cell? _ _ hX
  have HX := hid_mk hX
  have HS := hid_mk hs
  have HP := hid_mk (put28 w.heap.size none 0 [] id (w.alloc (.cells #[.slice none 0 0, .nilIface] 41)) (Enc.fresh w) hid0 hid1 (by simp))
  clear hX hs
  go_enter Try.func15, Try.ntmps15
  go_wp2_with fail
  refine HP.out.mono ?_
  rintro e w1 ⟨rfl, ⟨a1, c1, hE1⟩, hB1⟩
  rw [List.nil_append] at hE1
  have HE1 := hid_mk hE1
  have HB1 : Hid (Below w.heap.size w w1) := Below.trans ((Below.refl _ _).alloc (Nat.le_refl _) _) hB1
  clear hE1 hB1 HP
  go_wp2_with fail
  refine (clo29 w.heap.size X n c c1 a a1 xs (le4 id) w1 HE1.out ((HB1.out.cell (p := ⟨X, 0, none⟩) hXl).trans HX.out) hXl (sl_below HS.out HB1.out) hxn hn (by simp [le4])).mono ?_
  rintro e w2 ⟨rfl, ⟨a2, c2, hE2⟩, hB2⟩
  have HE2 := hid_mk hE2
  have HB2 := hid_mk (HB1.out.trans hB2)
  have hlen : (le4 id ++ enl xs).length = 4 + 8 * n := by rw [List.length_append, enl_len, hxn]; rfl
  obtain ⟨r, ha2, hr, hr', hcell⟩ := hE2.form (by omega)
  have Hlen := hid_mk hlen
  have Hcell := hid_mk hcell
  subst ha2
  clear hE2 hB2 hcell hlen
  go_wp2_with fail
  refine (bytes19 _ _ _ _ _ HE2.out).mono ?_
  rintro e w3 ⟨rfl, rfl⟩
  rw [Hlen.out]
  go_wp2
  go_ret2
  exact ⟨r, c2, rfl, by omega, hr', fun j hj => Hcell.out j (by rw [Hlen.out]; exact hj), HB2.out⟩
end Go.Proofs.Qxb6613120a
