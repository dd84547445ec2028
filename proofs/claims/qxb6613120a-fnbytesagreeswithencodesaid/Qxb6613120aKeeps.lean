/-
  An append onto a slice that the call owns, with one fact more than the library's law says: what the OLD value owned it still owns. (There was room: the new cells lie behind the old ones; there was none: the old row is left alone.)
-/
import Derived.Deep.AppendLies
namespace Go.Proofs.Qxb6613120a

section
variable {P : Program} (w : World)

theorem run_append_keeps (t ty : TypeId) (base : Nat) (e : TypeId) (i : TypeInfo) (z : Value) (size bytes : Nat) (ht : P.underlying t = some (.slice e)) (hi : P.info? e = some i) (hz : i.zero = some z)
    (hsize : i.size = size) (hby : i.bytes = bytes) (hzs : z.cells.size = size) (hsz : 0 < size)
    (v : Value) (n : Nat) (xs : List Value) (hown : w.ownsRow base e size v n xs)
    (ad : Addr) (m c : Nat) (news : List Value) (hl : news.length = m * size) (hnews : ∀ j u, news[j]? = some u → w.cell? (ad.add j) = some u) (h1 : ∀ u ∈ news, u.oneCell' = true)
    (hm : 0 < m) (h63 : n + m ≤ maxLen) (hbytes : (n + m) * bytes ≤ 140737488355328) (hbase : base ≤ w.heap.size) :
    ∃ g cap w', (Builtin.append_ #[t, t] ty #[v, .slice (some ad) m c]).run P w = .ok (.slice (some ⟨g, 0, none⟩) (n + m) cap) w' ∧
      w'.ownsRow base e size (.slice (some ⟨g, 0, none⟩) (n + m) cap) (n + m) (xs ++ news) ∧ w.grownBy w' v.ownBlock ∧ w'.ownsRow base e size v n xs := by
  obtain ⟨g, cap, w', hr, h2, h3, _, _⟩ := run_append_lies (P := P) w t ty base e i z size bytes ht hi hz hsize hby hzs hsz v n xs hown ad m c news hl hnews h1 hm h63 hbytes hbase _ rfl
  refine ⟨g, cap, w', hr, h2, h3, ?_⟩
  have hsmall : n + m ≤ 9223372036854775807 := by simp only [maxLen] at h63; omega
  obtain ⟨hx, hown2⟩ := hown
  rcases hown2 with ⟨hv, hn⟩ | ⟨r, rc, cur, hv, hbg, hg, hnc, hcm, hcs, htake⟩
  · exact ⟨hx, .inl ⟨hv, hn⟩⟩
  · subst hv
    by_cases hroom : n + m ≤ rc
    · subst hsize
      have hfit : n * i.size + news.length ≤ cur.size := by rw [hl, hcs, ← Nat.add_mul]; exact Nat.mul_le_mul_right _ hroom
      have hr2 := run_append_room (P := P) w t ty e i ht hi r n rc cur hg ad m c news hl hnews h1 hroom hfit
      have hw : w' = w.setRow r (cur.toList.take (n * i.size) ++ news ++ cur.toList.drop (n * i.size + news.length)).toArray := by
        have := hr.symm.trans hr2
        simp only [Result.ok.injEq] at this
        exact this.2
      subst hw
      refine ⟨hx, .inr ⟨r, rc, _, rfl, hbg, setRow_heap w r cur _ e _ hg, hnc, hcm, ?_, ?_⟩⟩
      · simp only [List.size_toArray, List.length_append, List.length_take, List.length_drop, Array.length_toList]
        omega
      · rw [htake, List.append_assoc, ← hx]
        exact List.take_left
    · subst hsize
      subst hby
      have holds : ∀ j u, xs[j]? = some u → w.cell? ((⟨r, 0, none⟩ : Addr).add j) = some u := World.ownsRow.cells (base := base) (e := e) (size := i.size) (n := n) (v := .slice (some ⟨r, 0, none⟩) n rc) ⟨hx, .inr ⟨r, rc, cur, rfl, hbg, hg, hnc, hcm, hcs, htake⟩⟩ (g := r) rfl
      have hr2 := run_append_grow (P := P) (ty := ty) w t e i z ht hi hz ⟨r, 0, none⟩ n rc xs hx holds ad m c news hl hnews (by omega) (by omega) (growslice_fits (by omega) hbytes)
      have hw : w' = w.drew.alloc (.cells (xs.toArray ++ news.toArray ++ Builtin.zeroCells z.cells (grownCap w (n + m) rc e - (n + m))) e) := by
        have := hr.symm.trans hr2
        simp only [Result.ok.injEq] at this
        exact this.2
      subst hw
      exact World.ownsRow.alloc (w := w.drew) ⟨hx, .inr ⟨r, rc, cur, rfl, hbg, hg, hnc, hcm, hcs, htake⟩⟩ _

/-- At a step of a region that draws its order. -/
theorem step_append_keeps {ops : Array Oper} {o : Oper} {a : Act} {K : Act → World → Prop} {Q : Exit → Act → World → Prop} {E : Prop} (hgd : o.guard = none) (s x : Operand) (t : TypeId)
    (ho : o.op = .call { callee := .builtin .append, args := #[s, x], argTypes := #[t, t] })
    (base : Nat) (e : TypeId) (i : TypeInfo) (z : Value) (size bytes : Nat) (ht : P.underlying t = some (.slice e)) (hi : P.info? e = some i) (hz : i.zero = some z)
    (hsize : i.size = size) (hby : i.bytes = bytes) (hzs : z.cells.size = size) (hsz : 0 < size)
    (v : Value) (n : Nat) (xs : List Value) (hs : a.eval s = v) (hown : w.ownsRow base e size v n xs)
    (ad : Addr) (m c : Nat) (news : List Value) (hx : a.eval x = .slice (some ad) m c) (hl : news.length = m * size) (hnews : ∀ j u, news[j]? = some u → w.cell? (ad.add j) = some u) (h1 : ∀ u ∈ news, u.oneCell' = true)
    (hm : 0 < m) (h63 : n + m ≤ maxLen) (hbytes : (n + m) * bytes ≤ 140737488355328) (hbase : base ≤ w.heap.size)
    (h : ∀ g cap w', w'.ownsRow base e size (.slice (some ⟨g, 0, none⟩) (n + m) cap) (n + m) (xs ++ news) → w.grownBy w' v.ownBlock → w'.ownsRow base e size v n xs → K (a.put o.dst (.slice (some ⟨g, 0, none⟩) (n + m) cap)) w') :
    if Region.wanted o (yielded ops a.tmps) = true then Oper.wp P o a w K Q else E := by
  have hw : Region.wanted o (yielded ops a.tmps) = true := by simp [Region.wanted, hgd]
  rw [if_pos hw]
  obtain ⟨g, cap, w', hr, h2, h3, h4⟩ := run_append_keeps (P := P) w t o.type base e i z size bytes ht hi hz hsize hby hzs hsz v n xs hown ad m c news hl hnews h1 hm h63 hbytes hbase
  unfold Oper.wp execOp
  simp only [ho, resolve, invoke, builtin, Sem.run_bind, Sem.run_pure, Result.andThen_ok, List.map_toArray, List.map_cons, List.map_nil, hs, hx, hr]
  exact h g cap w' h2 h3 h4

end
end Go.Proofs.Qxb6613120a
