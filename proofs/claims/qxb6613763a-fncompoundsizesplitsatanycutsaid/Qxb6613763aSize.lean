/-
  A compound's size: four octets a packet and four a word that its Length counts.
-/
import Derived.Test.Qxb6613763aPack
namespace Go.Proofs.Qxb6613763a
open Go.RowKit

/-- Four for each packet and four times each Length. -/
def tot : List Int → Int
  | [] => 0
  | l :: r => 4 * (l + 1) + tot r
/-- Four times each Length. -/
def tw : List Int → Int
  | [] => 0
  | l :: r => 4 * l + tw r

theorem tot_append : ∀ xs ys : List Int, tot (xs ++ ys) = tot xs + tot ys
  | [], ys => by simp [tot]
  | x :: r, ys => by
    have := tot_append r ys
    simp only [List.cons_append, tot]; omega
theorem tw_append : ∀ xs ys : List Int, tw (xs ++ ys) = tw xs + tw ys
  | [], ys => by simp [tw]
  | x :: r, ys => by
    have := tw_append r ys
    simp only [List.cons_append, tw]; omega
theorem tot_tw : ∀ xs : List Int, tot xs = 4 * (xs.length : Int) + tw xs
  | [] => rfl
  | x :: r => by
    have := tot_tw r
    simp only [tot, tw, List.length_cons]; omega
theorem tot_step (xs : List Int) (k : Nat) (hk : k < xs.length) : tot (xs.take (k + 1)) = tot (xs.take k) + 4 * (xs[k] + 1) := by
  rw [List.take_succ_eq_append_getElem hk, tot_append]
  simp [tot]
theorem tw_step (xs : List Int) (k : Nat) (hk : k < xs.length) : tw (xs.take (k + 1)) = tw (xs.take k) + 4 * xs[k] := by
  rw [List.take_succ_eq_append_getElem hk, tw_append]
  simp [tw]
theorem tw_bd : ∀ xs : List Int, (∀ x ∈ xs, 0 ≤ x ∧ x ≤ 65535) → 0 ≤ tw xs ∧ tw xs ≤ 262140 * (xs.length : Int)
  | [], _ => by simp [tw]
  | x :: r, h => by
    have h1 := h x (by simp)
    have h2 := tw_bd r fun y hy => h y (by simp [hy])
    simp only [tw, List.length_cons]; omega
theorem tot_bd (xs : List Int) (h : ∀ x ∈ xs, 0 ≤ x ∧ x ≤ 65535) : 0 ≤ tot xs ∧ tot xs ≤ 262144 * (xs.length : Int) := by
  have h1 := tot_tw xs
  have h2 := tw_bd xs h
  omega

/-- A slice of n packets whose Lengths are ls (or it is empty). -/
def Ps (w : World) (a : Option Addr) (n : Nat) (ls : List Int) : Prop :=
  n = 0 ∨ ∃ b o, a = some ⟨b, o, none⟩ ∧ b < w.heap.size ∧ ∀ i, i < n → w.cell? ⟨b, o + i * 47 + 3, none⟩ = some (.int .u16 (ls.getD i 0))

theorem ret_int {k : IntKind} {a b : Int} (h : a = b) : Ending.returned (.int k a) = .returned (.int k b) := by rw [h]

theorem hsize19 (b o : Nat) (l : Int) (w : World) (hc : w.cell? ⟨b, o + 3, none⟩ = some (.int .u16 l)) (h0 : 0 ≤ l) (h1 : l ≤ 65535) :
    Calls Try.prog 19 #[.pointer (some ⟨b, o, none⟩)] w fun e w' => e = .returned (.int .i64 (4 * (l + 1))) ∧ w = w' := by
  go_enter Try.func19, Try.ntmps19
  go_wp2
  go_ret
  exact ⟨rfl, rfl⟩

set_option maxHeartbeats 1000000 in
theorem size16 (g : Nat) (a : Option Addr) (n c : Nat) (ls : List Int) (w : World) (hg : w.cell? ⟨g, 0, none⟩ = some (.slice a n c)) (hs : Ps w a n ls) (hl : ls.length = n) (hn : n ≤ 4096) (hb : ∀ x ∈ ls, 0 ≤ x ∧ x ≤ 65535) :
    Calls Try.prog 16 #[.pointer (some ⟨g, 0, none⟩)] w fun e w' => e = .returned (.int .i64 (tot ls)) ∧ w = w' := by
  have HS := hid_mk hs
  have Hb := hid_mk hb
  clear hs hb
  go_enter Try.func16, Try.ntmps16
  go_wp2
  go_loop [3, 10] (fun t i => ∃ k : Nat, k ≤ n ∧ i = .int .i64 k ∧ t = .int .i64 (tot (ls.take k))) (fun _ i => n - (intOf i).toNat)
  case atStart => exact ⟨0, Nat.zero_le _, rfl, rfl⟩
  case round =>
    obtain ⟨k, hk, rfl, rfl⟩ := hrel
    by_cases hlt : k < n
    · rcases HS.out with h0 | ⟨b, o, ha, hbg, hc⟩
      · omega
      subst ha
      have hlk : k < ls.length := by omega
      have hcr : w.cell? ⟨b, o + k * 47 + 3, none⟩ = some (.int .u16 ls[k]) := by have := hc k hlt; simpa [hlk] using this
      have hi1 : (k : Int) < (n : Int) := by omega
      have hx := Hb.out ls[k] (List.getElem_mem hlk)
      have hbd := tot_bd (ls.take k) fun x hx => Hb.out x (List.mem_of_mem_take hx)
      have hln : (ls.take k).length = k := by simp; omega
      rw [hln] at hbd
      clear hc hln
      go_wp2_with fail
      refine (hsize19 b (o + k * 47) ls[k] w hcr hx.1 hx.2).mono ?_
      rintro e w' ⟨rfl, rfl⟩
      go_wp2
      go_round
      case rel => exact ⟨k + 1, by omega, by go_num, by rw [tot_step ls k hlk]⟩
      case measure => simp [intOf]; omega
    · have hkn : n = k := by omega
      subst hkn
      go_wp2
      go_ret
      exact ⟨ret_int (by rw [List.take_of_length_le (by omega)]), rfl⟩

theorem size10 (g : Nat) (a : Option Addr) (n c : Nat) (ls : List Int) (w : World) (hg : w.cell? ⟨g, 0, none⟩ = some (.slice a n c)) (hs : Ps w a n ls) (hl : ls.length = n) (hn : n ≤ 4096) (hb : ∀ x ∈ ls, 0 ≤ x ∧ x ≤ 65535) :
    Calls Try.prog 10 #[.pointer (some ⟨g, 0, none⟩)] w fun e w' => e = .returned (.int .i64 (tot ls)) ∧ w = w' := by
  have HC := hid_mk (size16 g a n c ls w hg hs hl hn hb)
  clear hg hs hb hl
  go_enter Try.func10, Try.ntmps10
  go_wp2_with fail
  refine HC.out.mono ?_
  rintro e w' ⟨rfl, rfl⟩
  go_wp2
  go_ret
  exact ⟨rfl, rfl⟩
end Go.Proofs.Qxb6613763a
