/-
  seat b6604708aD: the line's own row (append, and where its block lies), the two sentinels, bytes.TrimSuffix and bytes.Trim at a row, plain facts on lines.
-/
import Derived.Test.Qxb6604708aDoorSlice
import Derived.LaidEql
import Derived.Laws.AppendOwn
namespace Go.Proofs.Qxb6604708aDoor
open Go Go.RowKit

/-- v' lies where v lay, or in a block that w does not know. -/
def Fresh (w : World) (v v' : Value) : Prop := v'.ownBlock = v.ownBlock ∨ ∀ k, v'.ownBlock = some k → w.heap.size ≤ k

theorem Fresh.refl (w : World) (v : Value) : Fresh w v v := Or.inl rfl
theorem Fresh.trans {w w1 : World} {v v1 v2 : Value} (h : Fresh w v v1) (hs : w.heap.size ≤ w1.heap.size) (h2 : Fresh w1 v1 v2) : Fresh w v v2 := by
  rcases h2 with h2 | h2
  · rcases h with h | h
    · exact Or.inl (h2.trans h)
    · exact Or.inr (fun k hk => h k (h2 ▸ hk))
  · exact Or.inr (fun k hk => Nat.le_trans hs (h2 k hk))

section
variable {P : Program} (w : World)
theorem run_append_fresh (base : Nat) (t ty e : TypeId) (i : TypeInfo) (z : Value) (size bytes : Nat) (ht : P.underlying t = some (.slice e)) (hi : P.info? e = some i) (hz : i.zero = some z)
    (hsize : i.size = size) (hby : i.bytes = bytes) (hzs : z.cells.size = size) (hsz : 0 < size)
    (v : Value) (n : Nat) (xs : List Value) (hown : w.ownsRow base e size v n xs)
    (a : Addr) (m c : Nat) (news : List Value) (hl : news.length = m * size) (hnews : ∀ j u, news[j]? = some u → w.cell? (a.add j) = some u) (h1 : ∀ u ∈ news, u.oneCell' = true)
    (h63 : n + m ≤ maxLen) (hbytes : (n + m) * bytes ≤ 140737488355328) (hbase : base ≤ w.heap.size) :
    ∃ v' w', (Builtin.append_ #[t, t] ty #[v, .slice (some a) m c]).run P w = .ok v' w' ∧ w'.ownsRow base e size v' (n + m) (xs ++ news) ∧ w.grownBy w' v.ownBlock ∧ Fresh w v v' := by
  obtain ⟨v', w', hr, h2, h3, h4⟩ := run_append_own (P := P) w base t ty e i z size bytes ht hi hz hsize hby hzs hsz v n xs hown a m c news hl hnews h1 h63 hbytes hbase
  refine ⟨v', w', hr, h2, h3, ?_⟩
  have hown' := hown
  obtain ⟨hlen, hh⟩ := hown'
  rcases hh with ⟨rfl, rfl⟩ | ⟨g, cap, cur, rfl, hbg, hg, hnc, hcm, hcs, htake⟩
  · obtain ⟨v2, w2, hr2, h22, _, _⟩ := run_append_own (P := P) w w.heap.size t ty e i z size bytes ht hi hz hsize hby hzs hsz (.slice none 0 0) 0 xs ⟨hlen, Or.inl ⟨rfl, rfl⟩⟩ a m c news hl hnews h1 h63 hbytes (Nat.le_refl _)
    have he := hr.symm.trans hr2
    injection he with e1 e2
    subst e1
    exact Or.inr (fun k hk => (h22.lt k hk).1)
  · subst hsize
    subst hby
    by_cases hroom : n + m ≤ cap
    · have hfit : n * i.size + news.length ≤ cur.size := by rw [hl, hcs, ← Nat.add_mul]; exact Nat.mul_le_mul_right _ hroom
      have hr2 := run_append_room (P := P) w t ty e i ht hi g n cap cur hg a m c news hl hnews h1 hroom hfit
      have he := hr.symm.trans hr2
      injection he with e1 e2
      subst e1
      exact Or.inl rfl
    · have hsmall : n + m ≤ 9223372036854775807 := by simp only [maxLen] at h63; omega
      have holds : ∀ j u, xs[j]? = some u → w.cell? ((⟨g, 0, none⟩ : Addr).add j) = some u := hown.cells (g := g) rfl
      have hr2 := run_append_grow (P := P) w t ty e i z ht hi hz ⟨g, 0, none⟩ n cap xs hown.1 holds a m c news hl hnews (by omega) (by omega) (growslice_fits (by omega) hbytes)
      have he := hr.symm.trans hr2
      injection he with e1 e2
      subst e1
      refine Or.inr (fun k hk => ?_)
      simp [Value.ownBlock] at hk
      omega

/-- The step is an append: looked at first. -/
theorem step_is_append {ops : Array Oper} {o : Oper} {a : Act} {K : Act → World → Prop} {Q : Exit → Act → World → Prop} {E : Prop} (s x : Operand) (t : TypeId)
    (_ : o.op = .call { callee := .builtin .append, args := #[s, x], argTypes := #[t, t] }) (h : if Region.wanted o (yielded ops a.tmps) = true then Oper.wp P o a w K Q else E) : if Region.wanted o (yielded ops a.tmps) = true then Oper.wp P o a w K Q else E := h

/-- 'append(s, x...)' to an own row, as one step of a region that draws its order. -/
theorem step_append_fresh {ops : Array Oper} {o : Oper} {a : Act} {K : Act → World → Prop} {Q : Exit → Act → World → Prop} {E : Prop}
    (hgd : o.guard = none) (s x : Operand) (t : TypeId) (ho : o.op = .call { callee := .builtin .append, args := #[s, x], argTypes := #[t, t] })
    (base : Nat) (e : TypeId) (i : TypeInfo) (z : Value) (size bytes : Nat) (ht : P.underlying t = some (.slice e)) (hi : P.info? e = some i) (hz : i.zero = some z)
    (hsize : i.size = size) (hby : i.bytes = bytes) (hzs : z.cells.size = size) (hsz : 0 < size)
    (v : Value) (n : Nat) (xs : List Value) (hs : a.eval s = v) (hown : w.ownsRow base e size v n xs)
    (ad : Addr) (m c : Nat) (news : List Value) (hx : a.eval x = .slice (some ad) m c) (hl : news.length = m * size) (hnews : ∀ j u, news[j]? = some u → w.cell? (ad.add j) = some u) (h1 : ∀ u ∈ news, u.oneCell' = true)
    (h63 : n + m ≤ maxLen) (hbytes : (n + m) * bytes ≤ 140737488355328) (hbase : base ≤ w.heap.size)
    (h : ∀ v' w', w'.ownsRow base e size v' (n + m) (xs ++ news) → w.grownBy w' v.ownBlock → Fresh w v v' → K (a.put o.dst v') w') :
    if Region.wanted o (yielded ops a.tmps) = true then Oper.wp P o a w K Q else E := by
  have hw : Region.wanted o (yielded ops a.tmps) = true := by simp [Region.wanted, hgd]
  rw [if_pos hw]
  obtain ⟨v', w', hr, h2, h3, h4⟩ := run_append_fresh (P := P) w base t o.type e i z size bytes ht hi hz hsize hby hzs hsz v n xs hown ad m c news hl hnews h1 h63 hbytes hbase
  unfold Oper.wp execOp
  simp only [ho, resolve, invoke, builtin, Sem.run_bind, Sem.run_pure, Result.andThen_ok, List.map_toArray, List.map_cons, List.map_nil, hs, hx, hr]
  exact h v' w' h2 h3 h4
end

/-- The two sentinels that the road compares: io.EOF in ev, bufio.ErrBufferFull in fv. -/
structure Sent (N : Nat) (ev fv : Value) (w : World) : Prop where
  E : w.cell? ⟨1, 0, none⟩ = some ev
  F : w.cell? ⟨0, 0, none⟩ = some fv
  two : ∃ (ae af : Addr) (ca cb : Array Value) (ta tb : TypeId), ev = .iface 81 (.pointer (some ae)) ∧ fv = .iface 81 (.pointer (some af)) ∧ ae ≠ af ∧ ae.block < N ∧ af.block < N ∧
    w.heap[ae.block]? = some (.cells ca ta (0, 0)) ∧ w.heap[af.block]? = some (.cells cb tb (0, 0))
  low : 1 < N

theorem Sent.keep {N : Nat} {ev fv : Value} {w w' : World} {m : Nat → Prop} (h : Sent N ev fv w) (hk : Keep m w w') (hm : ∀ k, m k → N ≤ k) : Sent N ev fv w' := by
  have hl := h.low
  obtain ⟨ae, af, ca, cb, ta, tb, h1, h2, h3, h4, h5, h6, h7⟩ := h.two
  refine ⟨?_, ?_, ⟨ae, af, ca, cb, ta, tb, h1, h2, h3, h4, h5, ?_, ?_⟩, hl⟩
  · rw [hk.cell (fun hh => by have := hm 1 hh; omega) h.E]; exact h.E
  · rw [hk.cell (fun hh => by have := hm 0 hh; omega) h.F]; exact h.F
  · rw [hk.block _ (block_lt h6) (fun hh => by have := hm _ hh; omega)]; exact h6
  · rw [hk.block _ (block_lt h7) (fun hh => by have := hm _ hh; omega)]; exact h7

theorem Sent.at {N M : Nat} {ev fv : Value} {w : World} (h : Sent N ev fv w) (hM : N ≤ M) : Sent M ev fv w := by
  obtain ⟨ae, af, ca, cb, ta, tb, h1, h2, h3, h4, h5, h6, h7⟩ := h.two
  exact ⟨h.E, h.F, ⟨ae, af, ca, cb, ta, tb, h1, h2, h3, by omega, by omega, h6, h7⟩, by have := h.low; omega⟩

theorem info81 : ∃ i, Tryd.prog.info? 81 = some i ∧ i.comparable = true := by
  have h : (Tryd.prog.info? 81).map (·.comparable) = some true := by kernel_rfl
  cases hh : Tryd.prog.info? 81 with
  | none => rw [hh] at h; cases h
  | some i => rw [hh] at h; exact ⟨i, rfl, by simpa using h⟩
theorem info98 : ∃ j, Tryd.prog.info? 98 = some j ∧ j.size ≠ 0 := by
  have h : (Tryd.prog.info? 98).map (·.size) = some 1 := by kernel_rfl
  cases hh : Tryd.prog.info? 98 with
  | none => rw [hh] at h; cases h
  | some i => rw [hh] at h; exact ⟨i, rfl, by simp at h; omega⟩

theorem Sent.eq_ff {N : Nat} {ev fv : Value} {w : World} (h : Sent N ev fv w) : (binOp .eql 27 fv fv).run Tryd.prog w = .ok (.bool true) w := by
  obtain ⟨ae, af, ca, cb, ta, tb, h1, h2, h3, h4, h5, h6, h7⟩ := h.two
  obtain ⟨i, hi, hc⟩ := info81
  obtain ⟨j, hj, _⟩ := info98
  rw [h2]
  exact run_eql_iface_ptr_same w af Tryd.underlying27 Tryd.underlying81 hi hc hj

theorem Sent.eq_ee {N : Nat} {ev fv : Value} {w : World} (h : Sent N ev fv w) : (binOp .eql 27 ev ev).run Tryd.prog w = .ok (.bool true) w := by
  obtain ⟨ae, af, ca, cb, ta, tb, h1, h2, h3, h4, h5, h6, h7⟩ := h.two
  obtain ⟨i, hi, hc⟩ := info81
  obtain ⟨j, hj, _⟩ := info98
  rw [h1]
  exact run_eql_iface_ptr_same w ae Tryd.underlying27 Tryd.underlying81 hi hc hj

theorem Sent.eq_ef {N : Nat} {ev fv : Value} {w : World} (h : Sent N ev fv w) : (binOp .eql 27 ev fv).run Tryd.prog w = .ok (.bool false) w := by
  obtain ⟨ae, af, ca, cb, ta, tb, h1, h2, h3, h4, h5, h6, h7⟩ := h.two
  obtain ⟨i, hi, hc⟩ := info81
  obtain ⟨j, hj, hz⟩ := info98
  rw [h1, h2]
  exact run_eql_iface_ptr_other w Tryd.underlying27 Tryd.underlying81 hi hc hj hz h3 h6 h7

theorem nil_eq (w : World) (x : Value) (hx : ∃ t p, x = .iface t p) : (binOp .eql 27 .nilIface x).run Tryd.prog w = .ok (.bool false) w := by
  obtain ⟨t, p, rfl⟩ := hx
  exact run_eql_iface_nil_left w t p Tryd.underlying27

theorem Sent.ev_iface {N : Nat} {ev fv : Value} {w : World} (h : Sent N ev fv w) : ∃ t p, ev = .iface t p := by
  obtain ⟨ae, af, ca, cb, ta, tb, h1, _⟩ := h.two
  exact ⟨_, _, h1⟩
theorem Sent.fv_iface {N : Nat} {ev fv : Value} {w : World} (h : Sent N ev fv w) : ∃ t p, fv = .iface t p := by
  obtain ⟨ae, af, ca, cb, ta, tb, _, h1, _⟩ := h.two
  exact ⟨_, _, h1⟩

/-- bytes.TrimSuffix(b, "\n"). -/
theorem trim_nl (b o b2 m c d : Nat) (bs : List UInt8) (w : World) (hl : bs.length = m) (hmc : m ≤ c) (hc : m ≤ 2000000) (hcell : ∀ i, i < m → w.cell? ⟨b, o + i, none⟩ = some (.int .u8 (bs.getD i 0).toNat)) (h2 : w.cell? ⟨b2, 0, none⟩ = some (.int .u8 10)) :
    Calls Tryd.prog 30 #[.slice (some ⟨b, o, none⟩) m c, .slice (some ⟨b2, 0, none⟩) 1 d] w fun e w' => e = .returned (.slice (some ⟨b, o, none⟩) (if Lib.hasSuffix bs [10] then m - 1 else m) c) ∧ w' = w := by
  have h := Tryd.bytes_TrimSuffix_all (some ⟨b, o, none⟩) (some ⟨b2, 0, none⟩) m c 1 d (bs.map fun b => (b.toNat : Int)) [10] w (by rw [List.length_map]; exact hl) rfl hmc (by omega)
    (fun _ => ⟨b, o, rfl, fun i hi => by rw [nums_getD]; exact hcell i hi⟩) (fun _ => ⟨b2, 0, rfl, fun i hi => by
      obtain rfl : i = 0 := by omega
      exact h2⟩)
  refine h.mono ?_
  rintro e w' ⟨rfl, rfl⟩
  refine ⟨?_, rfl⟩
  unfold Lib.trimSuffixV Lib.bytesTrimSuffix Lib.sliceTo
  rw [bytes_nums]
  simp only [show Lib.bytesOf [10] = [10] from rfl]
  split <;> rfl

theorem hasSuffix_last (bs : List UInt8) (i : Nat) (h : bs.length = i + 1) : Lib.hasSuffix bs [10] = true ↔ bs[i]? = some 10 := by
  unfold Lib.hasSuffix
  rw [List.isSuffixOf_iff_suffix]
  constructor
  · rintro ⟨t, rfl⟩
    simp at h
    simp [← h]
  · intro hh
    refine ⟨bs.take i, ?_⟩
    rw [List.getElem?_eq_some_iff] at hh
    obtain ⟨hi, he⟩ := hh
    rw [← he, List.take_append_getElem hi, List.take_of_length_le (by omega)]
end Go.Proofs.Qxb6604708aDoor
