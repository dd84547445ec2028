/-
  The Encoder's methods over its state: block g holds the buffer and a nil error; the buffer owns the bytes bs in a row behind g.
-/
import Derived.Test.Qxb6613120aApp
import Derived.Test.Qxb6613120aKeeps
import Derived.Deep.DeepMust
import Derived.Deep.DeepFit
import Derived.Deep.RegionWith
import Derived.Deep.RegionLaw
namespace Go.Proofs.Qxb6613120a
open Go.RowKit

/-- Block g is an Encoder without an error whose buffer is the slice 'a, length of bs, c', and that slice owns the bytes bs, in a block behind g (or it is nil and bs is empty). -/
structure Enc (w : World) (g : Nat) (a : Option Addr) (c : Nat) (bs : List Int) : Prop where
  block : w.heap[g]? = some (.cells #[.slice a bs.length c, .nilIface] 41 (0, 0))
  own : w.ownsRow (g + 1) 5 1 (.slice a bs.length c) bs.length (bs.map (Value.int .u8))

theorem Enc.buf {w : World} {g : Nat} {a : Option Addr} {c : Nat} {bs : List Int} (h : Enc w g a c bs) : w.cell? ⟨g, 0, none⟩ = some (.slice a bs.length c) := by
  simp [World.cell?, h.block]
theorem Enc.err {w : World} {g : Nat} {a : Option Addr} {c : Nat} {bs : List Int} (h : Enc w g a c bs) : w.cell? ⟨g, 1, none⟩ = some .nilIface := by
  simp [World.cell?, h.block]
theorem Enc.free {w : World} {g : Nat} {a : Option Addr} {c : Nat} {bs : List Int} (h : Enc w g a c bs) : w.frozen? ⟨g, 0, none⟩ = false := by
  simp [World.frozen?, h.block]
theorem Enc.lt {w : World} {g : Nat} {a : Option Addr} {c : Nat} {bs : List Int} (h : Enc w g a c bs) : g < w.heap.size := World.block_lt_of_cell? _ _ h.buf

theorem hid_mk {p : Prop} (h : p) : Hid p := h

theorem u64_bounds (x : Int) : 0 ≤ IntKind.u64.wrap x ∧ IntKind.u64.wrap x < 18446744073709551616 := by
  simp [IntKind.wrap, IntKind.signed, IntKind.bits]
  omega

theorem u32_bounds (x : Int) : 0 ≤ IntKind.u32.wrap x ∧ IntKind.u32.wrap x < 4294967296 := by
  simp [IntKind.wrap, IntKind.signed, IntKind.bits]
  omega

theorem Enc.put {w w1 : World} {g : Nat} {a : Option Addr} {c : Nat} {bs : List Int} (h : Enc w g a c bs) (ys : List Int) (r cp : Nat) (hown : w1.ownsRow (g + 1) 5 1 (.slice (some ⟨r, 0, none⟩) (bs.length + ys.length) cp) (bs.length + ys.length) (bs.map (Value.int .u8) ++ ys.map (Value.int .u8)))
    (hb : w1.heap[g]? = w.heap[g]?) : Enc (w1.setCell ⟨g, 0, none⟩ (.slice (some ⟨r, 0, none⟩) (bs.length + ys.length) cp)) g (some ⟨r, 0, none⟩) cp (bs ++ ys) := by
  have hb' : w1.heap[g]? = some (.cells #[.slice a bs.length c, .nilIface] 41 (0, 0)) := hb.trans h.block
  refine ⟨?_, ?_⟩
  · simp [World.setCell, Array.getElem?_modify, hb', List.length_append]
  · have := ownsRow_setCell_below hown (a := ⟨g, 0, none⟩) (by simp) (.slice (some ⟨r, 0, none⟩) (bs.length + ys.length) cp)
    simpa [List.length_append, List.map_append] using this

set_option maxHeartbeats 1000000 in
theorem put23 (g : Nat) (a : Option Addr) (c : Nat) (bs : List Int) (x : Int) (w : World) (h : Enc w g a c bs) (hlim : bs.length + 8 ≤ 140737488355328) :
    Calls Try.prog 23 #[.pointer (some ⟨g, 0, none⟩), .int .i64 x] w fun e w' => e = .returned (.tuple #[]) ∧ (∃ a' c', Enc w' g a' c' (bs ++ le8 (IntKind.u64.wrap x))) ∧ Below g w w' := by
  have hbuf := h.buf
  have hfree := h.free
  have hlt := h.lt
  have hu := u64_bounds x
  have HA := hid_mk (app32 (g + 1) bs.length (IntKind.u64.wrap x) hu.1 hu.2 (.slice a bs.length c) (bs.map (Value.int .u8)) w.drew h.own hlt hlim)
  clear hu
  go_enter Try.func23, Try.ntmps23
  go_region_with (go_at_call 32; go_must (refine HA.out.mono ?_; rintro e w1 ⟨v', rfl, hown', hbel⟩; obtain ⟨r, cp, rfl, hr1, hr2⟩ := hown'.form (by omega); have hc1 := (hbel.cell (p := ⟨g, 0, none⟩) (by simp)).trans hbuf; have hf1 := (hbel.frozen (p := ⟨g, 0, none⟩) (by simp)).trans hfree))
  all_goals go_end0
  all_goals exact ⟨rfl, ⟨_, _, h.put (le8 (IntKind.u64.wrap x)) r cp hown' (hbel.block g (by omega))⟩, (Below.trans (b := w.drew) (Below.refl g w).drew (hbel.mono (by omega))).setCell (by simp) _⟩

set_option maxHeartbeats 1000000 in
theorem put17 (g : Nat) (a : Option Addr) (c : Nat) (bs : List Int) (x : Int) (w : World) (h : Enc w g a c bs) (hlim : bs.length + 4 ≤ 140737488355328) :
    Calls Try.prog 17 #[.pointer (some ⟨g, 0, none⟩), .int .i32 x] w fun e w' => e = .returned (.tuple #[]) ∧ (∃ a' c', Enc w' g a' c' (bs ++ le4 (IntKind.u32.wrap x))) ∧ Below g w w' := by
  have hbuf := h.buf
  have hfree := h.free
  have hlt := h.lt
  have hu := u32_bounds x
  have HA := hid_mk (app31 (g + 1) bs.length (IntKind.u32.wrap x) hu.1 hu.2 (.slice a bs.length c) (bs.map (Value.int .u8)) w.drew h.own hlt hlim)
  clear hu
  go_enter Try.func17, Try.ntmps17
  go_region_with (go_at_call 31; go_must (refine HA.out.mono ?_; rintro e w1 ⟨v', rfl, hown', hbel⟩; obtain ⟨r, cp, rfl, hr1, hr2⟩ := hown'.form (by omega); have hc1 := (hbel.cell (p := ⟨g, 0, none⟩) (by simp)).trans hbuf; have hf1 := (hbel.frozen (p := ⟨g, 0, none⟩) (by simp)).trans hfree))
  all_goals go_end0
  all_goals exact ⟨rfl, ⟨_, _, h.put (le4 (IntKind.u32.wrap x)) r cp hown' (hbel.block g (by omega))⟩, (Below.trans (b := w.drew) (Below.refl g w).drew (hbel.mono (by omega))).setCell (by simp) _⟩

set_option maxHeartbeats 1000000 in
theorem put28 (g : Nat) (a : Option Addr) (c : Nat) (bs : List Int) (x : Int) (w : World) (h : Enc w g a c bs) (hx0 : 0 ≤ x) (hx1 : x < 4294967296) (hlim : bs.length + 4 ≤ 140737488355328) :
    Calls Try.prog 28 #[.pointer (some ⟨g, 0, none⟩), .int .u32 x] w fun e w' => e = .returned (.tuple #[]) ∧ (∃ a' c', Enc w' g a' c' (bs ++ le4 (x))) ∧ Below g w w' := by
  have hbuf := h.buf
  have hfree := h.free
  have hlt := h.lt
  have hu := And.intro hx0 hx1
  have HA := hid_mk (app31 (g + 1) bs.length (x) hu.1 hu.2 (.slice a bs.length c) (bs.map (Value.int .u8)) w.drew h.own hlt hlim)
  clear hu
  go_enter Try.func28, Try.ntmps28
  go_region_with (go_at_call 31; go_must (refine HA.out.mono ?_; rintro e w1 ⟨v', rfl, hown', hbel⟩; obtain ⟨r, cp, rfl, hr1, hr2⟩ := hown'.form (by omega); have hc1 := (hbel.cell (p := ⟨g, 0, none⟩) (by simp)).trans hbuf; have hf1 := (hbel.frozen (p := ⟨g, 0, none⟩) (by simp)).trans hfree))
  all_goals go_end0
  all_goals exact ⟨rfl, ⟨_, _, h.put (le4 (x)) r cp hown' (hbel.block g (by omega))⟩, (Below.trans (b := w.drew) (Below.refl g w).drew (hbel.mono (by omega))).setCell (by simp) _⟩

theorem bytes19 (g : Nat) (a : Option Addr) (c : Nat) (bs : List Int) (w : World) (h : Enc w g a c bs) :
    Calls Try.prog 19 #[.pointer (some ⟨g, 0, none⟩)] w fun e w' => e = .returned (.tuple #[.slice a bs.length c, .nilIface]) ∧ w = w' := by
  have hbuf := h.buf
  have herr := h.err
  go_enter Try.func19, Try.ntmps19
  go_wp2
  go_ret2
  exact ⟨rfl, rfl⟩
end Go.Proofs.Qxb6613120a
