/-
  An argument of type [32]byte, opened: 32 numbers, each a byte.
-/
import Derived.Test.Qxb6613120aEnc2
import Derived.ProofKit
import Derived.OpenShut
namespace Go.Proofs.Qxb6613120a
open Go.ChangeShapes Go.WideShapes Go.ChangeAt Go.RowKit

theorem cells45 : Try.prog.cellsOf 45 = 32 := by kernel_rfl
theorem cells5 : Try.prog.cellsOf 5 = 1 := by kernel_rfl

theorem list_of_cells (cs : List Value) (h : ∀ i, i < cs.length → ∃ n : Int, cs[i]? = some (.int .u8 n) ∧ (Lit.int .u8 n).wf = true) :
    ∃ vs : List Int, cs = vs.map (Value.int .u8) ∧ ∀ n ∈ vs, (Lit.int .u8 n).wf = true := by
  induction cs with
  | nil => exact ⟨[], rfl, by simp⟩
  | cons c r ih =>
    obtain ⟨vs, hv, hw⟩ := ih fun i hi => by
      have := h (i + 1) (by simp; omega)
      simpa using this
    obtain ⟨n, hn, wn⟩ := h 0 (by simp)
    simp at hn
    exact ⟨n :: vs, by rw [hn, hv]; rfl, fun m hm => by
      rcases List.mem_cons.1 hm with rfl | hm
      · exact wn
      · exact hw m hm⟩

theorem open_arr {H : Type} {enc : TypeId × Value → H} {W : World} {base : Nat} {spare : Nat → Bool} {held : Bool} {r : Reach} {b0 : Nat} {v : Value} {d : DataW H} {p : List MemPlace}
    (hv : Value.okWide Try.prog W r b0 45 v) (h : DataW.Trod enc Try.prog W base spare held 45 v d p) :
    ∃ vs : List Int, v = .agg (arr vs) ∧ vs.length = 32 ∧ ∀ j, 0 ≤ vs.getD j 0 ∧ vs.getD j 0 ≤ 255 := by
  simp only [Value.okWide, Try.underlying45] at hv
  obtain ⟨cs, rfl, hsz, _⟩ := hv
  rw [cells45] at hsz
  obtain ⟨fuel, hf⟩ := h
  obtain ⟨xs, m, _, _, hl, hxs, hel⟩ := DataW.trod_array Try.underlying45 hf
  simp only [Value.cells] at hel
  obtain ⟨vs, hvs, hw⟩ := list_of_cells cs.toList fun i hi => by
    have hi' : i < 32 := by simpa [hsz] using hi
    have h1 := hel i hi'
    rw [cells5, Nat.mul_one, List.getElem?_eq_getElem (by omega)] at h1
    obtain ⟨n, hn, _, wn⟩ := DataW.trod_int Try.underlying5 h1
    refine ⟨n, ?_, wn⟩
    have h2 := congrArg (fun l : List Value => l[0]?) hn
    simpa [List.getElem?_take, List.getElem?_drop] using h2
  have hlen : vs.length = 32 := by
    have := congrArg List.length hvs
    simp at this; omega
  refine ⟨vs, ?_, hlen, fun j => ?_⟩
  · unfold arr; rw [← hvs]
  · by_cases hj : j < vs.length
    · have := bounds_u8 (hw vs[j] (List.getElem_mem hj))
      simpa [hj] using this
    · simp [List.getElem?_eq_none (by omega : vs.length ≤ j)]
end Go.Proofs.Qxb6613120a
