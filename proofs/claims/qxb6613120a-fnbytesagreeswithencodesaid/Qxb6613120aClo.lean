/-
  The closures that put a slice's numbers into an Encoder.
-/
import Derived.Test.Qxb6613120aEnc2
namespace Go.Proofs.Qxb6613120a
open Go.RowKit

/-- A slice of n numbers xs that lies below block g (or is empty). -/
def Sl (k : IntKind) (w : World) (g : Nat) (a : Option Addr) (n : Nat) (xs : List Int) : Prop :=
  n = 0 ∨ ∃ b o, a = some ⟨b, o, none⟩ ∧ b < g ∧ ∀ i, i < n → w.cell? ⟨b, o + i, none⟩ = some (.int k (xs.getD i 0))

/-- The encoding of int32s, of int64s. -/
def ens (xs : List Int) : List Int := xs.flatMap fun x => le4 (IntKind.u32.wrap x)
def enl (xs : List Int) : List Int := xs.flatMap fun x => le8 (IntKind.u64.wrap x)

theorem ens_nil : ens [] = [] := rfl
theorem ens_cons (x : Int) (r : List Int) : ens (x :: r) = le4 (IntKind.u32.wrap x) ++ ens r := rfl
theorem ens_append (xs ys : List Int) : ens (xs ++ ys) = ens xs ++ ens ys := by simp [ens]
theorem ens_len : ∀ xs : List Int, (ens xs).length = 4 * xs.length
  | [] => rfl
  | x :: r => by
    rw [ens_cons, List.length_append, ens_len r]
    simp only [le4, List.length_cons, List.length_nil]
    omega
theorem ens_step (xs : List Int) (k : Nat) (hk : k < xs.length) : ens (xs.take (k + 1)) = ens (xs.take k) ++ le4 (IntKind.u32.wrap xs[k]) := by
  rw [List.take_succ_eq_append_getElem hk, ens_append, ens_cons, ens_nil, List.append_nil]
theorem enl_nil : enl [] = [] := rfl
theorem enl_cons (x : Int) (r : List Int) : enl (x :: r) = le8 (IntKind.u64.wrap x) ++ enl r := rfl
theorem enl_append (xs ys : List Int) : enl (xs ++ ys) = enl xs ++ enl ys := by simp [enl]
theorem enl_len : ∀ xs : List Int, (enl xs).length = 8 * xs.length
  | [] => rfl
  | x :: r => by
    rw [enl_cons, List.length_append, enl_len r]
    simp only [le8, List.length_cons, List.length_nil]
    omega
theorem enl_step (xs : List Int) (k : Nat) (hk : k < xs.length) : enl (xs.take (k + 1)) = enl (xs.take k) ++ le8 (IntKind.u64.wrap xs[k]) := by
  rw [List.take_succ_eq_append_getElem hk, enl_append, enl_cons, enl_nil, List.append_nil]

set_option maxHeartbeats 1000000 in
theorem clo16 (g X n c c0 : Nat) (a a0 : Option Addr) (xs bs : List Int) (w : World) (hE : Enc w g a0 c0 bs) (hX : w.cell? ⟨X, 0, none⟩ = some (.slice a n c)) (hXg : X < g) (hs : Sl .i32 w g a n xs) (hxn : xs.length = n) (hn : n ≤ 1048576) (hlim : bs.length ≤ 1073741824) :
    Calls Try.prog 16 #[.pointer (some ⟨g, 0, none⟩), .pointer (some ⟨X, 0, none⟩)] w fun e w' => e = .returned (.tuple #[]) ∧ (∃ a' c', Enc w' g a' c' (bs ++ ens xs)) ∧ Below g w w' := by
  have hlt := hE.lt
  have HS := hid_mk hs
  have HE0 := hid_mk hE
  clear hs hE
  go_enter Try.func16, Try.ntmps16
  go_wp2
  go_loopw [3] (fun i wr => ∃ (k : Nat) (a' : Option Addr) (c' : Nat), k ≤ n ∧ i = .int .i64 k ∧ Enc wr g a' c' (bs ++ ens (xs.take k)) ∧ Below g w wr) (fun i _ => n - (intOf i).toNat)
  case atStart => exact ⟨0, a0, c0, Nat.zero_le _, rfl, by simpa [ens] using HE0.out, Below.refl _ _⟩
  case round =>
    obtain ⟨k, a', c', hk, rfl, hE, hB⟩ := hrel
    have hXr := (hB.cell (p := ⟨X, 0, none⟩) hXg).trans hX
    have HE := hid_mk hE
    have HB := hid_mk hB
    clear hE hB
    by_cases hlt' : k < n
    · rcases HS.out with h0 | ⟨b, o, ha, hbg, hc⟩
      · omega
      subst ha
      have hcr := (HB.out.cell (p := ⟨b, o + k, none⟩) hbg).trans (hc k hlt')
      have hi : (k : Int) < (n : Int) := by omega
      clear hc
      go_wp2_with fail
      refine (put17 g a' c' _ _ _ HE.out ?_).mono ?_
      · have := ens_len (xs.take k)
        rw [List.length_append, this]
        simp
        omega
      rintro e w2 ⟨rfl, ⟨a2, c2, hE2⟩, hB2⟩
      rw [List.append_assoc, ← ens_step xs k (by omega)] at hE2
      have HE2 := hid_mk hE2
      have HB2 := hid_mk (HB.out.trans hB2)
      clear hE2 hB2
      go_wp2
      go_roundw
      case rel => exact ⟨k + 1, a2, c2, by omega, by go_num, HE2.out, HB2.out⟩
      case measure => simp [intOf]; omega
    · have hkn : k = n := by omega
      subst hkn
      go_wp2
      go_end0
      exact ⟨rfl, ⟨a', c', by have := HE.out; rwa [List.take_of_length_le (by omega)] at this⟩, HB.out⟩

set_option maxHeartbeats 1000000 in
theorem clo18 (g X n c c0 : Nat) (a a0 : Option Addr) (xs bs : List Int) (w : World) (hE : Enc w g a0 c0 bs) (hX : w.cell? ⟨X, 0, none⟩ = some (.slice a n c)) (hXg : X < g) (hs : Sl .i32 w g a n xs) (hxn : xs.length = n) (hn : n ≤ 1048576) (hlim : bs.length ≤ 1073741824) :
    Calls Try.prog 18 #[.pointer (some ⟨g, 0, none⟩), .pointer (some ⟨X, 0, none⟩)] w fun e w' => e = .returned (.tuple #[]) ∧ (∃ a' c', Enc w' g a' c' (bs ++ ens xs)) ∧ Below g w w' := by
  have hlt := hE.lt
  have HS := hid_mk hs
  have HE0 := hid_mk hE
  clear hs hE
  go_enter Try.func18, Try.ntmps18
  go_wp2
  go_loopw [3] (fun i wr => ∃ (k : Nat) (a' : Option Addr) (c' : Nat), k ≤ n ∧ i = .int .i64 k ∧ Enc wr g a' c' (bs ++ ens (xs.take k)) ∧ Below g w wr) (fun i _ => n - (intOf i).toNat)
  case atStart => exact ⟨0, a0, c0, Nat.zero_le _, rfl, by simpa [ens] using HE0.out, Below.refl _ _⟩
  case round =>
    obtain ⟨k, a', c', hk, rfl, hE, hB⟩ := hrel
    have hXr := (hB.cell (p := ⟨X, 0, none⟩) hXg).trans hX
    have HE := hid_mk hE
    have HB := hid_mk hB
    clear hE hB
    by_cases hlt' : k < n
    · rcases HS.out with h0 | ⟨b, o, ha, hbg, hc⟩
      · omega
      subst ha
      have hcr := (HB.out.cell (p := ⟨b, o + k, none⟩) hbg).trans (hc k hlt')
      have hi : (k : Int) < (n : Int) := by omega
      clear hc
      go_wp2_with fail
      refine (put17 g a' c' _ _ _ HE.out ?_).mono ?_
      · have := ens_len (xs.take k)
        rw [List.length_append, this]
        simp
        omega
      rintro e w2 ⟨rfl, ⟨a2, c2, hE2⟩, hB2⟩
      rw [List.append_assoc, ← ens_step xs k (by omega)] at hE2
      have HE2 := hid_mk hE2
      have HB2 := hid_mk (HB.out.trans hB2)
      clear hE2 hB2
      go_wp2
      go_roundw
      case rel => exact ⟨k + 1, a2, c2, by omega, by go_num, HE2.out, HB2.out⟩
      case measure => simp [intOf]; omega
    · have hkn : k = n := by omega
      subst hkn
      go_wp2
      go_end0
      exact ⟨rfl, ⟨a', c', by have := HE.out; rwa [List.take_of_length_le (by omega)] at this⟩, HB.out⟩

set_option maxHeartbeats 1000000 in
theorem clo29 (g X n c c0 : Nat) (a a0 : Option Addr) (xs bs : List Int) (w : World) (hE : Enc w g a0 c0 bs) (hX : w.cell? ⟨X, 0, none⟩ = some (.slice a n c)) (hXg : X < g) (hs : Sl .i64 w g a n xs) (hxn : xs.length = n) (hn : n ≤ 1048576) (hlim : bs.length ≤ 1073741824) :
    Calls Try.prog 29 #[.pointer (some ⟨g, 0, none⟩), .pointer (some ⟨X, 0, none⟩)] w fun e w' => e = .returned (.tuple #[]) ∧ (∃ a' c', Enc w' g a' c' (bs ++ enl xs)) ∧ Below g w w' := by
  have hlt := hE.lt
  have HS := hid_mk hs
  have HE0 := hid_mk hE
  clear hs hE
  go_enter Try.func29, Try.ntmps29
  go_wp2
  go_loopw [3] (fun i wr => ∃ (k : Nat) (a' : Option Addr) (c' : Nat), k ≤ n ∧ i = .int .i64 k ∧ Enc wr g a' c' (bs ++ enl (xs.take k)) ∧ Below g w wr) (fun i _ => n - (intOf i).toNat)
  case atStart => exact ⟨0, a0, c0, Nat.zero_le _, rfl, by simpa [enl] using HE0.out, Below.refl _ _⟩
  case round =>
    obtain ⟨k, a', c', hk, rfl, hE, hB⟩ := hrel
    have hXr := (hB.cell (p := ⟨X, 0, none⟩) hXg).trans hX
    have HE := hid_mk hE
    have HB := hid_mk hB
    clear hE hB
    by_cases hlt' : k < n
    · rcases HS.out with h0 | ⟨b, o, ha, hbg, hc⟩
      · omega
      subst ha
      have hcr := (HB.out.cell (p := ⟨b, o + k, none⟩) hbg).trans (hc k hlt')
      have hi : (k : Int) < (n : Int) := by omega
      clear hc
      go_wp2_with fail
      refine (put23 g a' c' _ _ _ HE.out ?_).mono ?_
      · have := enl_len (xs.take k)
        rw [List.length_append, this]
        simp
        omega
      rintro e w2 ⟨rfl, ⟨a2, c2, hE2⟩, hB2⟩
      rw [List.append_assoc, ← enl_step xs k (by omega)] at hE2
      have HE2 := hid_mk hE2
      have HB2 := hid_mk (HB.out.trans hB2)
      clear hE2 hB2
      go_wp2
      go_roundw
      case rel => exact ⟨k + 1, a2, c2, by omega, by go_num, HE2.out, HB2.out⟩
      case measure => simp [intOf]; omega
    · have hkn : k = n := by omega
      subst hkn
      go_wp2
      go_end0
      exact ⟨rfl, ⟨a', c', by have := HE.out; rwa [List.take_of_length_le (by omega)] at this⟩, HB.out⟩
end Go.Proofs.Qxb6613120a
