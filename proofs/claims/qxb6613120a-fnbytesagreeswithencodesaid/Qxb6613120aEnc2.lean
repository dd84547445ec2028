/-
  PutInt256: the 32 bytes are appended; what the buffer held before lies where it lay.
-/
import Derived.Test.Qxb6613120aEnc
namespace Go.Proofs.Qxb6613120a
open Go.RowKit

/-- The value of an array of bytes. -/
def arr (vs : List Int) : Array Value := (vs.map (Value.int .u8)).toArray

set_option maxHeartbeats 1000000 in
theorem put25 (g : Nat) (a : Option Addr) (c : Nat) (bs vs : List Int) (w : World) (h : Enc w g a c bs) (hvs : vs.length = 32) (hlim : bs.length + 32 ≤ 140737488355328) :
    Calls Try.prog 25 #[.pointer (some ⟨g, 0, none⟩), .agg (arr vs)] w fun e w' => e = .returned (.tuple #[]) ∧ (∃ a' c', Enc w' g a' c' (bs ++ vs)) ∧ Below g w w' ∧
      w'.ownsRow (g + 1) 5 1 (.slice a bs.length c) bs.length (bs.map (Value.int .u8)) ∧ (∀ k, k < w.heap.size → k ≠ g → some k ≠ (Value.slice a bs.length c).ownBlock → w'.heap[k]? = w.heap[k]?) := by
  have hbuf := h.buf
  have hfree := h.free
  have hlt := h.lt
  have hV : (arr vs).size = 32 := by simp [arr, hvs]
  obtain ⟨i0, hi, hz0, hz1, hz2⟩ := info_parts info5
  have hne : some g ≠ (Value.slice a bs.length c).ownBlock := fun e => by have := (h.own.lt g e.symm).1; omega
  have hown := hid_mk (World.ownsRow.alloc h.own (.cells (arr vs) 45))
  have hl : Hid ((vs.map (Value.int .u8)).length = 32 * 1) := by simp [Hid, hvs]
  have hnews : Hid (∀ j u, (vs.map (Value.int .u8))[j]? = some u → ((w.alloc (.cells (arr vs) 45)).drew).cell? ((⟨w.heap.size, 0, none⟩ : Addr).add j) = some u) :=
    World.news_of_block (fr := (0, 0)) (t := 45) (cs := arr vs) (heap_alloc_new w _)
  have h1 : Hid (∀ u ∈ vs.map (Value.int .u8), u.oneCell' = true) := by
    intro u hu
    obtain ⟨z, _, rfl⟩ := List.mem_map.1 hu
    rfl
  have hb63 : Hid (bs.length + 32 ≤ maxLen) := by unfold Hid maxLen; omega
  have hne' := hid_mk hne
  clear hne
  go_enter Try.func25, Try.ntmps25
  go_wp2
  go_region_law ((refine step_append_keeps _ (by rfl) _ _ 22 (by rfl) (g + 1) 5 i0 (.int .u8 0) 1 1 Try.underlying22 hi hz0 hz1 hz2 (by rfl) (by decide) (.slice a bs.length c) bs.length (bs.map (Value.int .u8)) (by simp [Act.eval]) hown.out ⟨w.heap.size, 0, none⟩ 32 32 (vs.map (Value.int .u8)) (by simp [Act.eval]) hl.out hnews.out h1.out (by decide) hb63.out (by omega) (by simp; omega) ?_; intro r cp w1 hown' hgrow hkeep; have hc1 : w1.cell? ⟨g, 0, none⟩ = some (.slice a bs.length c) := (hgrow.cell_far ⟨g, 0, none⟩ (by simp; omega) hne'.out).trans ((World.cell?_alloc_lt _ _ _ hlt).trans hbuf); have hf1 : w1.frozen? ⟨g, 0, none⟩ = false := (hgrow.frozen_far ⟨g, 0, none⟩ (by simp; omega) hne'.out).trans ((World.frozen?_alloc_old _ _ _ (by simp; omega)).trans hfree)))
  go_wp2
  go_end0
  have hp := h.put vs r cp (w1 := w1) (by rw [hvs]; exact hown') ((hgrow.block g (by simp; omega) hne'.out).trans (Below.heap_alloc _ _ _ hlt))
  rw [hvs] at hp
  have hbel : Below g w w1 := by
    have hb0 : Below g w (w.alloc (.cells (arr vs) 45)).drew := ((Below.refl g w).alloc (by omega) _).drew
    exact hb0.grown hgrow (by simp; omega) (fun k hk => by have := (h.own.lt k hk).1; omega)
  refine ⟨rfl, ⟨_, _, hp⟩, hbel.setCell (by simp) _, ownsRow_setCell_below hkeep (by simp) _, fun k hk hkg hkr => ?_⟩
  rw [Below.heap_setCell _ _ _ _ (by simpa using hkg), hgrow.block k (by simp; omega) hkr]
  exact Below.heap_alloc _ _ _ hk

/-! ### The state, carried on -/
/-- A new Encoder. -/
theorem Enc.fresh (w : World) : Enc (w.alloc (.cells #[.slice none 0 0, .nilIface] 41)) w.heap.size none 0 [] :=
  ⟨heap_alloc_new w _, World.ownsRow_nil _ _ _ _⟩

/-- What is owned stays owned while nothing that was there turns. -/
theorem ownsRow_below {w w' : World} {base : Nat} {e : TypeId} {size : Nat} {v : Value} {n : Nat} {xs : List Value} (h : w.ownsRow base e size v n xs) (hb : Below w.heap.size w w') : w'.ownsRow base e size v n xs := by
  obtain ⟨hx, hr⟩ := h
  refine ⟨hx, ?_⟩
  rcases hr with hr | ⟨g, cap, cur, hv, hbg, hg, r⟩
  · exact .inl hr
  · refine .inr ⟨g, cap, cur, hv, hbg, ?_, r⟩
    rw [hb.block g ?_]; exact hg
    rcases Nat.lt_or_ge g w.heap.size with hlt | hge
    · exact hlt
    · rw [Array.getElem?_eq_none hge] at hg; cases hg

theorem Enc.below {w w' : World} {g : Nat} {a : Option Addr} {c : Nat} {bs : List Int} (h : Enc w g a c bs) (hb : Below w.heap.size w w') : Enc w' g a c bs :=
  ⟨(hb.block g h.lt).trans h.block, ownsRow_below h.own hb⟩

theorem Enc.alloc {w : World} {g : Nat} {a : Option Addr} {c : Nat} {bs : List Int} (h : Enc w g a c bs) (o : Obj) : Enc (w.alloc o) g a c bs :=
  h.below ((Below.refl _ _).alloc (Nat.le_refl _) o)

/-- Where the bytes lie, if there are any. -/
theorem Enc.form {w : World} {g : Nat} {a : Option Addr} {c : Nat} {bs : List Int} (h : Enc w g a c bs) (hn : 0 < bs.length) :
    ∃ r, a = some ⟨r, 0, none⟩ ∧ g < r ∧ r < w.heap.size ∧ ∀ j, j < bs.length → w.cell? ⟨r, j, none⟩ = some (.int .u8 (bs.getD j 0)) := by
  obtain ⟨r, cap, hv, hgr, hlt⟩ := h.own.form hn
  simp only [Value.slice.injEq] at hv
  obtain ⟨rfl, _, rfl⟩ := hv
  refine ⟨r, rfl, hgr, hlt, fun j hj => ?_⟩
  have := h.own.cells (g := r) rfl j (.int .u8 (bs.getD j 0)) (by simp [hj])
  rwa [show (⟨r, 0, none⟩ : Addr).add j = ⟨r, j, none⟩ from by unfold Addr.add; split <;> simp_all] at this
end Go.Proofs.Qxb6613120a
