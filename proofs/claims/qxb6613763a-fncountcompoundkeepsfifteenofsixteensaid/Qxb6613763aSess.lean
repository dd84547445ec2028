/-
  A session made by ZZnewSession; countCompound; ZZavgRTCPSize.
-/
import Derived.Test.Qxb6613763aRows
import Derived.Test.Qxb6613763aAvg
import Derived.WalkKit
import Derived.WalkLawsBesides
import Derived.BigQuiet
import Derived.Deep.QuietTactic
namespace Go.Proofs.Qxb6613763a
open Go.RowKit

/-- A session's cells: all zero but for the overhead and the average. -/
def sess (o : Int) (x : Nat) : Array Value := #[.int .u32 0, .slice none 0 0, .int .i64 o, .int .i64 0, .int .i64 0, .nilIface, .nilFunc, .int .u8 0, .slice none 0 0, .int .i64 0, .int .i64 0, .float .f64 0, .float .f64 0, .int .u64 0, .int .i64 0, .pointer none, .int .u64 0, .int .i64 0, .pointer none, .int .u64 0, .int .i64 0, .pointer none, .int .u8 0, .int .i64 0, .int .i64 0, .int .i64 0, .int .i64 0, .bool false, .float .f64 x, .bool false, .map none, .slice none 0 0, .slice none 0 0, .int .i64 0, .int .u32 0, .int .u32 0, .int .u8 0, .int .u16 0, .int .u32 0, .int .u32 0, .int .u64 0, .int .i64 0, .pointer none, .map none, .int .i64 0, .int .i64 0, .int .i64 0, .int .i64 0, .slice none 0 0, .int .u64 0, .int .i64 0, .pointer none, .slice none 0 0, .slice none 0 0, .bool false, .slice none 0 0, .bool false, .slice none 0 0, .slice none 0 0]

theorem sess_size (o : Int) (x : Nat) : (sess o x).size = 59 := rfl
theorem sess_over (o : Int) (x : Nat) : (sess o x)[2]? = some (.int .i64 o) := rfl
theorem sess_avg (o : Int) (x : Nat) : (sess o x)[28]? = some (.float .f64 x) := rfl
theorem sess_set (o : Int) (x y : Nat) : (sess o x).setIfInBounds 28 (.float .f64 y) = sess o y := rfl

theorem build_sess (o : Int) (x : Nat) (w : World) : (Instr.build 104 #[(2, .int .i64 o), (22, .float .f64 x)]).run Try.prog w = .ok (.agg (sess o x)) w := by kernel_rfl

/-- A struct literal of two parts, at the list of a plain region's operations. -/
theorem wpList_build_two {P : Program} {ops : Array Oper} {rest : List Oper} {o : Oper} {a : Act} {w : World} {Q : Exit → Act → World → Prop} (hgd : o.guard = none) (t : TypeId) (i j : Nat) (x y : Operand) (ho : o.op = .build t #[(i, x), (j, y)])
    (vx vy : Value) (hx : a.eval x = vx) (hy : a.eval y = vy) (v : Value) (hrun : (Instr.build t #[(i, vx), (j, vy)]).run P w = .ok v w) (h : wpList P ops Q rest (a.put o.dst v) w) : wpList P ops Q (o :: rest) a w := by
  refine wpList_plain hgd fun K hK => ?_
  unfold Oper.wp execOp
  simp only [ho, List.map_toArray, List.map_cons, List.map_nil, hx, hy, Sem.run_bind, hrun, Sem.run_pure, Result.andThen_ok]
  exact hK _ _ h

theorem new13 (o : Int) (x : Nat) (w : World) :
    Calls Try.prog 13 #[.int .i64 o, .float .f64 x] w fun e w' => e = .returned (.pointer (some ⟨w.heap.size, 0, none⟩)) ∧ w' = w.alloc (.cells (sess o x) 104) := by
  have hs := sess_size o x
  go_enter Try.func13, Try.ntmps13
  go_wp2_with (refine wpList_build_two rfl 104 2 22 _ _ rfl (.int .i64 o) (.float .f64 x) rfl rfl _ (build_sess o x w) ?_)
  go_ret
  exact ⟨rfl, rfl⟩

/-- A store of a float (the library has this law for the other plain kinds). -/
theorem run_store_float {P : Program} (w : World) (a : Addr) (m : Mode) (k : FloatKind) (b : Nat) : (store a (.float k b) m).run P w = stored P w a (.float k b) m := run_store P w a _ m rfl
attribute [local go_sem] run_store_float

theorem hid_mk {p : Prop} (h : p) : Hid p := h

/-- What countCompound makes of the average A of a session with overhead o at a compound of s octets, X = s + o: (X + 15 A) / 16. -/
theorem count18 (g : Nat) (o s : Int) (X A : Nat) (w : World) (hg : w.heap[g]? = some (.cells (sess o (W (16 * A))) 104 (0, 0))) (hX : s + o = (X : Int)) (hX0 : 0 < X) (hA0 : 0 < A) (hX1 : X < 4294967296) (hA1 : A < 4294967296) :
    Calls Try.prog 18 #[.pointer (some ⟨g, 0, none⟩), .int .i64 s] w fun e w' => e = .returned (.tuple #[]) ∧ w'.heap[g]? = some (.cells (sess o (W (X + 15 * A))) 104 (0, 0)) ∧ Below g w w' := by
  have c2 : w.cell? ⟨g, 2, none⟩ = some (.int .i64 o) := by simp [World.cell?, hg, sess_over]
  have c28 : w.cell? ⟨g, 28, none⟩ = some (.float .f64 (W (16 * A))) := by simp [World.cell?, hg, sess_avg]
  have f28 : w.frozen? ⟨g, 28, none⟩ = false := by simp [World.frozen?, hg]
  have hf : floatOfInt .f64 (X : Int) = W (16 * X) := ofInt_W X hX0 (by omega)
  have q1 := fun wx => run_float_arith (P := Try.prog) wx .quo 39 .f64 (W (16 * X)) 4625196817309499392 (W X) (div16 X hX0 (by omega))
  have q2 := fun wx => run_float_arith (P := Try.prog) wx .mul 39 .f64 (W (16 * A)) 4624633867356078080 (W (15 * (16 * A))) (mul15 (16 * A) (by omega) (by omega))
  have q3 := fun wx => run_float_arith (P := Try.prog) wx .quo 39 .f64 (W (15 * (16 * A))) 4625196817309499392 (W (15 * A)) (by have := div16 (15 * A) (by omega) (by omega); rwa [show 16 * (15 * A) = 15 * (16 * A) by omega] at this)
  have q4 := fun wx => run_float_arith (P := Try.prog) wx .add 39 .f64 (W X) (W (15 * A)) (W (X + 15 * A)) (add_W X (15 * A) hX0 (by omega) (by omega))
  have Hg := hid_mk hg
  clear hg
  go_enter Try.func18, Try.ntmps18
  go_region
  go_end0
  refine ⟨rfl, ?_, ?_⟩
  · have e := Hg.out
    show (w.setCell ⟨g, 28, none⟩ (.float .f64 (W (X + 15 * A)))).heap[g]? = _
    simp [World.setCell, Array.getElem?_modify, e, sess_set]
  · exact ((Below.refl g w).setCell (p := ⟨g, 28, none⟩) (by simp) _).drew

theorem count14 (g : Nat) (o s : Int) (X A : Nat) (w : World) (hg : w.heap[g]? = some (.cells (sess o (W (16 * A))) 104 (0, 0))) (hX : s + o = (X : Int)) (hX0 : 0 < X) (hA0 : 0 < A) (hX1 : X < 4294967296) (hA1 : A < 4294967296) :
    Calls Try.prog 14 #[.pointer (some ⟨g, 0, none⟩), .int .i64 s] w fun e w' => e = .returned (.tuple #[]) ∧ w'.heap[g]? = some (.cells (sess o (W (X + 15 * A))) 104 (0, 0)) ∧ Below g w w' := by
  have HC := hid_mk (count18 g o s X A w hg hX hX0 hA0 hX1 hA1)
  clear hg hX
  go_enter Try.func14, Try.ntmps14
  go_wp2_with fail
  refine HC.out.mono ?_
  rintro e w' ⟨rfl, h1, h2⟩
  have H1 := hid_mk h1
  have H2 := hid_mk h2
  clear h1 h2
  go_wp2
  go_end0
  exact ⟨rfl, H1.out, H2.out⟩

theorem avg15 (g : Nat) (o : Int) (x : Nat) (w : World) (hg : w.heap[g]? = some (.cells (sess o x) 104 (0, 0))) :
    Calls Try.prog 15 #[.pointer (some ⟨g, 0, none⟩)] w fun e w' => e = .returned (.float .f64 x) ∧ w = w' := by
  have c28 : w.cell? ⟨g, 28, none⟩ = some (.float .f64 x) := by simp [World.cell?, hg, sess_avg]
  clear hg
  go_enter Try.func15, Try.ntmps15
  go_wp2
  go_ret
  exact ⟨rfl, rfl⟩
end Go.Proofs.Qxb6613763a
