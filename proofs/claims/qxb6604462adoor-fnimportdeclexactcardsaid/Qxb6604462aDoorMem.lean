/-
  seat b6604462aD: memory kept but for a few blocks; rows, appends and where their blocks lie.
-/
import Derived.Test.Qxb6604462aDoorSmall
import Derived.Test.Qxb6604462aDoorShelf
import Derived.Laws.CopyRow
import Derived.Lib.BufferWrite
import Derived.LaidEql
import Derived.Laws.AppendOwn
import Derived.Laws.MakeOwn
import Derived.Lib.AppendStr
import Derived.OwnWalk
import Derived.Laws.IdiomStrings
namespace Go.Proofs.Qxb6604462aDoor
open Go Go.RowKit

section
/-- Every block that was there and is not among 'm' is as it was. -/
structure Keep (m : Nat → Prop) (w w' : World) : Prop where
  os : w'.os = w.os
  tape : w'.tape = w.tape
  output : w'.output = w.output
  size : w.heap.size ≤ w'.heap.size
  block : ∀ k, k < w.heap.size → ¬ m k → w'.heap[k]? = w.heap[k]?

variable {m m' : Nat → Prop} {w w1 w2 w3 : World}
theorem Keep.refl (m : Nat → Prop) (w : World) : Keep m w w := ⟨rfl, rfl, rfl, Nat.le_refl _, fun _ _ _ => rfl⟩
theorem Keep.trans (h1 : Keep m w1 w2) (h2 : Keep m w2 w3) : Keep m w1 w3 :=
  ⟨h2.os.trans h1.os, h2.tape.trans h1.tape, h2.output.trans h1.output, Nat.le_trans h1.size h2.size, fun k hk hm => (h2.block k (Nat.lt_of_lt_of_le hk h1.size) hm).trans (h1.block k hk hm)⟩
/-- .. where the second step may also turn what the first has made. -/
theorem Keep.trans' (h1 : Keep m w1 w2) (h2 : Keep m' w2 w3) (hm : ∀ k, m' k → m k ∨ w1.heap.size ≤ k) : Keep m w1 w3 :=
  ⟨h2.os.trans h1.os, h2.tape.trans h1.tape, h2.output.trans h1.output, Nat.le_trans h1.size h2.size, fun k hk hk' => (h2.block k (Nat.lt_of_lt_of_le hk h1.size) (fun h => (hm k h).elim hk' (fun h' => by omega))).trans (h1.block k hk hk')⟩
theorem Keep.mono (h : Keep m w1 w2) (hm : ∀ k, m k → m' k) : Keep m' w1 w2 := ⟨h.os, h.tape, h.output, h.size, fun k hk h' => h.block k hk (fun h'' => h' (hm k h''))⟩
theorem Keep.below (h : Keep m w1 w2) {B : Nat} (hB : B ≤ w1.heap.size) (hm : ∀ k, m k → B ≤ k) : Below B w1 w2 :=
  ⟨h.os, h.tape, h.output, h.size, fun k hk => h.block k (Nat.lt_of_lt_of_le hk hB) (fun h' => by have := hm k h'; omega)⟩
theorem Keep.of_below (h : Below w1.heap.size w1 w2) (m : Nat → Prop) : Keep m w1 w2 := ⟨h.os, h.tape, h.output, h.size, fun k hk _ => h.block k hk⟩
theorem Keep.drewN (h : Keep m w1 w2) (n : Nat) : Keep m w1 (w2.drewN n) := ⟨h.os, h.tape, h.output, h.size, h.block⟩
theorem Keep.drew (h : Keep m w1 w2) : Keep m w1 w2.drew := ⟨h.os, h.tape, h.output, h.size, h.block⟩
theorem Keep.alloc (h : Keep m w1 w2) (o : Obj) : Keep m w1 (w2.alloc o) :=
  ⟨h.os, h.tape, h.output, by rw [World.size_alloc]; have := h.size; omega, fun k hk hm => by
    have h1 := h.block k hk hm
    have hlt : k < w2.heap.size := Nat.lt_of_lt_of_le hk h.size
    rw [← h1]
    show (w2.heap.push o)[k]? = _
    rw [Array.getElem?_push, if_neg (by omega)]⟩
theorem Keep.setCell (h : Keep m w1 w2) {b i : Nat} (hb : m b) (v : Value) : Keep m w1 (w2.setCell ⟨b, i, none⟩ v) :=
  ⟨h.os, h.tape, h.output, by rw [World.size_setCell]; exact h.size, fun k hk hm => by
    rw [Below.heap_setCell _ _ _ _ (fun e => hm (by rw [show k = b from e]; exact hb))]
    exact h.block k hk hm⟩
/-- A cell of a block that is kept. -/
theorem Keep.cell (h : Keep m w1 w2) {b i : Nat} {v : Value} (hm : ¬ m b) (hc : w1.cell? ⟨b, i, none⟩ = some v) : w2.cell? ⟨b, i, none⟩ = w1.cell? ⟨b, i, none⟩ := by
  have hb := h.block b (World.block_lt_of_cell? w1 _ hc) hm
  simp only [World.cell?, hb]
theorem Keep.setRow (h : Keep m w1 w2) {g : Nat} (hb : m g) (cs : Array Value) : Keep m w1 (w2.setRow g cs) :=
  ⟨h.os, h.tape, h.output, by rw [setRow_size]; exact h.size, fun k hk hm => by
    rw [setRow_other _ _ _ _ (fun e => hm (by rw [e]; exact hb))]
    exact h.block k hk hm⟩

/-- The cells of a whole block. -/
theorem block_cell {b o : Nat} {cs : Array Value} {t : TypeId} {fz : Nat × Nat} (h : w.heap[b]? = some (.cells cs t fz)) : w.cell? ⟨b, o, none⟩ = cs[o]? := by simp [World.cell?, h]
theorem block_free {b o : Nat} {cs : Array Value} {t : TypeId} (h : w.heap[b]? = some (.cells cs t (0, 0))) : w.frozen? ⟨b, o, none⟩ = false := by simp [World.frozen?, h]
theorem block_lt {b : Nat} {o : Obj} (h : w.heap[b]? = some o) : b < w.heap.size := (Array.getElem?_eq_some_iff.1 h).1
theorem block_setCell {b o : Nat} {cs : Array Value} {t : TypeId} {fz : Nat × Nat} (h : w.heap[b]? = some (.cells cs t fz)) (v : Value) : (w.setCell ⟨b, o, none⟩ v).heap[b]? = some (.cells (cs.setIfInBounds o v) t fz) := by
  rw [setCell_eq_setRow w b o cs t fz v h]
  exact setRow_heap w b cs _ t fz h
theorem block_setCell_other {b b' o : Nat} (hne : b' ≠ b) (v : Value) : (w.setCell ⟨b, o, none⟩ v).heap[b']? = w.heap[b']? := Below.heap_setCell _ _ _ _ hne
end

/-- v' lies where v lay, or in a block that w does not know. -/
def Fresh (w : World) (v v' : Value) : Prop := v'.ownBlock = v.ownBlock ∨ ∀ k, v'.ownBlock = some k → w.heap.size ≤ k

theorem Fresh.refl (w : World) (v : Value) : Fresh w v v := Or.inl rfl
theorem Fresh.trans {w w1 : World} {v v1 v2 : Value} (h : Fresh w v v1) (hs : w.heap.size ≤ w1.heap.size) (h2 : Fresh w1 v1 v2) : Fresh w v v2 := by
  rcases h2 with h2 | h2
  · rcases h with h | h
    · exact Or.inl (h2.trans h)
    · exact Or.inr (fun k hk => h k (h2 ▸ hk))
  · exact Or.inr (fun k hk => Nat.le_trans hs (h2 k hk))

section
variable {P : Program} (w : World)
theorem run_append_fresh (base : Nat) (t ty e : TypeId) (i : TypeInfo) (z : Value) (size bytes : Nat) (ht : P.underlying t = some (.slice e)) (hi : P.info? e = some i) (hz : i.zero = some z)
    (hsize : i.size = size) (hby : i.bytes = bytes) (hzs : z.cells.size = size) (hsz : 0 < size)
    (v : Value) (n : Nat) (xs : List Value) (hown : w.ownsRow base e size v n xs)
    (a : Addr) (m c : Nat) (news : List Value) (hl : news.length = m * size) (hnews : ∀ j u, news[j]? = some u → w.cell? (a.add j) = some u) (h1 : ∀ u ∈ news, u.oneCell' = true)
    (h63 : n + m ≤ maxLen) (hbytes : (n + m) * bytes ≤ 140737488355328) (hbase : base ≤ w.heap.size) :
    ∃ v' w', (Builtin.append_ #[t, t] ty #[v, .slice (some a) m c]).run P w = .ok v' w' ∧ w'.ownsRow base e size v' (n + m) (xs ++ news) ∧ w.grownBy w' v.ownBlock ∧ Fresh w v v' := by
  obtain ⟨v', w', hr, h2, h3, h4⟩ := run_append_own (P := P) w base t ty e i z size bytes ht hi hz hsize hby hzs hsz v n xs hown a m c news hl hnews h1 h63 hbytes hbase
  refine ⟨v', w', hr, h2, h3, ?_⟩
  have hown' := hown
  obtain ⟨hlen, hh⟩ := hown'
  rcases hh with ⟨rfl, rfl⟩ | ⟨g, cap, cur, rfl, hbg, hg, hnc, hcm, hcs, htake⟩
  · obtain ⟨v2, w2, hr2, h22, _, _⟩ := run_append_own (P := P) w w.heap.size t ty e i z size bytes ht hi hz hsize hby hzs hsz (.slice none 0 0) 0 xs ⟨hlen, Or.inl ⟨rfl, rfl⟩⟩ a m c news hl hnews h1 h63 hbytes (Nat.le_refl _)
    have he := hr.symm.trans hr2
    injection he with e1 e2
    subst e1
    exact Or.inr (fun k hk => (h22.lt k hk).1)
  · subst hsize
    subst hby
    by_cases hroom : n + m ≤ cap
    · have hfit : n * i.size + news.length ≤ cur.size := by rw [hl, hcs, ← Nat.add_mul]; exact Nat.mul_le_mul_right _ hroom
      have hr2 := run_append_room (P := P) w t ty e i ht hi g n cap cur hg a m c news hl hnews h1 hroom hfit
      have he := hr.symm.trans hr2
      injection he with e1 e2
      subst e1
      exact Or.inl rfl
    · have hsmall : n + m ≤ 9223372036854775807 := by simp only [maxLen] at h63; omega
      have holds : ∀ j u, xs[j]? = some u → w.cell? ((⟨g, 0, none⟩ : Addr).add j) = some u := hown.cells (g := g) rfl
      have hr2 := run_append_grow (P := P) w t ty e i z ht hi hz ⟨g, 0, none⟩ n cap xs hown.1 holds a m c news hl hnews (by omega) (by omega) (growslice_fits (by omega) hbytes)
      have he := hr.symm.trans hr2
      injection he with e1 e2
      subst e1
      refine Or.inr (fun k hk => ?_)
      simp [Value.ownBlock] at hk
      omega

/-- The step is an append: looked at first. -/
theorem step_is_append {ops : Array Oper} {o : Oper} {a : Act} {K : Act → World → Prop} {Q : Exit → Act → World → Prop} {E : Prop} (s x : Operand) (t : TypeId)
    (_ : o.op = .call { callee := .builtin .append, args := #[s, x], argTypes := #[t, t] }) (h : if Region.wanted o (yielded ops a.tmps) = true then Oper.wp P o a w K Q else E) : if Region.wanted o (yielded ops a.tmps) = true then Oper.wp P o a w K Q else E := h

/-- 'append(s, x...)' to an own row, as one step of a region that draws its order. -/
theorem step_append_fresh {ops : Array Oper} {o : Oper} {a : Act} {K : Act → World → Prop} {Q : Exit → Act → World → Prop} {E : Prop}
    (hgd : o.guard = none) (s x : Operand) (t : TypeId) (ho : o.op = .call { callee := .builtin .append, args := #[s, x], argTypes := #[t, t] })
    (base : Nat) (e : TypeId) (i : TypeInfo) (z : Value) (size bytes : Nat) (ht : P.underlying t = some (.slice e)) (hi : P.info? e = some i) (hz : i.zero = some z)
    (hsize : i.size = size) (hby : i.bytes = bytes) (hzs : z.cells.size = size) (hsz : 0 < size)
    (v : Value) (n : Nat) (xs : List Value) (hs : a.eval s = v) (hown : w.ownsRow base e size v n xs)
    (ad : Addr) (m c : Nat) (news : List Value) (hx : a.eval x = .slice (some ad) m c) (hl : news.length = m * size) (hnews : ∀ j u, news[j]? = some u → w.cell? (ad.add j) = some u) (h1 : ∀ u ∈ news, u.oneCell' = true)
    (h63 : n + m ≤ maxLen) (hbytes : (n + m) * bytes ≤ 140737488355328) (hbase : base ≤ w.heap.size)
    (h : ∀ v' w', w'.ownsRow base e size v' (n + m) (xs ++ news) → w.grownBy w' v.ownBlock → Fresh w v v' → K (a.put o.dst v') w') :
    if Region.wanted o (yielded ops a.tmps) = true then Oper.wp P o a w K Q else E := by
  have hw : Region.wanted o (yielded ops a.tmps) = true := by simp [Region.wanted, hgd]
  rw [if_pos hw]
  obtain ⟨v', w', hr, h2, h3, h4⟩ := run_append_fresh (P := P) w base t o.type e i z size bytes ht hi hz hsize hby hzs hsz v n xs hown ad m c news hl hnews h1 h63 hbytes hbase
  unfold Oper.wp execOp
  simp only [ho, resolve, invoke, builtin, Sem.run_bind, Sem.run_pure, Result.andThen_ok, List.map_toArray, List.map_cons, List.map_nil, hs, hx, hr]
  exact h v' w' h2 h3 h4

/-- 'append(s, x...)' to an own row, with where it lies. -/
theorem wpList_append_fresh {ops : Array Oper} {rest : List Oper} {o : Oper} {a : Act} {Q : Exit → Act → World → Prop} (hgd : o.guard = none) (s x : Operand) (t : TypeId)
    (ho : o.op = .call { callee := .builtin .append, args := #[s, x], argTypes := #[t, t] })
    (base : Nat) (e : TypeId) (i : TypeInfo) (z : Value) (size bytes : Nat) (ht : P.underlying t = some (.slice e)) (hi : P.info? e = some i) (hz : i.zero = some z)
    (hsize : i.size = size) (hby : i.bytes = bytes) (hzs : z.cells.size = size) (hsz : 0 < size)
    (v : Value) (n : Nat) (xs : List Value) (hs : a.eval s = v) (hown : w.ownsRow base e size v n xs)
    (ad : Addr) (m c : Nat) (news : List Value) (hx : a.eval x = .slice (some ad) m c) (hl : news.length = m * size) (hnews : ∀ j u, news[j]? = some u → w.cell? (ad.add j) = some u) (h1 : ∀ u ∈ news, u.oneCell' = true)
    (h63 : n + m ≤ maxLen) (hbytes : (n + m) * bytes ≤ 140737488355328) (hbase : base ≤ w.heap.size)
    (h : ∀ v' w', w'.ownsRow base e size v' (n + m) (xs ++ news) → w.grownBy w' v.ownBlock → Fresh w v v' → wpList P ops Q rest (a.put o.dst v') w') : wpList P ops Q (o :: rest) a w := by
  refine wpList_plain hgd fun K hK => ?_
  obtain ⟨v', w', hr, h2, h3, h4⟩ := run_append_fresh (P := P) w base t o.type e i z size bytes ht hi hz hsize hby hzs hsz v n xs hown ad m c news hl hnews h1 h63 hbytes hbase
  unfold Oper.wp execOp
  simp only [ho, resolve, invoke, builtin, Sem.run_bind, Sem.run_pure, Result.andThen_ok, List.map_toArray, List.map_cons, List.map_nil, hs, hx, hr]
  exact hK _ _ (h v' w' h2 h3 h4)

theorem run_append_str_fresh (base : Nat) (t u ty e : TypeId) (i : TypeInfo) (ht : P.underlying t = some (.slice e)) (hu : P.underlying u = some .string) (hi : P.info? e = some i) (hz : i.zero = some (.int .u8 0))
    (hsize : i.size = 1) (hby : i.bytes = 1)
    (v : Value) (n : Nat) (xs : List Value) (hown : w.ownsRow base e 1 v n xs) (s : ByteArray)
    (h63 : n + s.size ≤ maxLen) (hbytes : n + s.size ≤ 140737488355328) (hbase : base ≤ w.heap.size) :
    ∃ v' w', (Builtin.append_ #[t, u] ty #[v, .string s]).run P w = .ok v' w' ∧ w'.ownsRow base e 1 v' (n + s.size) (xs ++ Lib.strCells s) ∧ w.grownBy w' v.ownBlock ∧ Fresh w v v' := by
  obtain ⟨v', w', hr, h2, h3, h4⟩ := Lib.run_append_own_string (P := P) w base t u ty e i ht hu hi hz hsize hby v n xs hown s h63 hbytes hbase
  refine ⟨v', w', hr, h2, h3, ?_⟩
  have hown' := hown
  obtain ⟨hlen, hh⟩ := hown'
  rcases hh with ⟨rfl, rfl⟩ | ⟨g, cap, cur, rfl, hbg, hg, hnc, hcm, hcs, htake⟩
  · obtain ⟨v2, w2, hr2, h22, _, _⟩ := Lib.run_append_own_string (P := P) w w.heap.size t u ty e i ht hu hi hz hsize hby (.slice none 0 0) 0 xs ⟨hlen, Or.inl ⟨rfl, rfl⟩⟩ s h63 hbytes (Nat.le_refl _)
    have he := hr.symm.trans hr2
    injection he with e1 e2
    subst e1
    exact Or.inr (fun k hk => (h22.lt k hk).1)
  · by_cases hroom : n + s.size ≤ cap
    · have hcs' : cur.size = cap := by simpa using hcs
      have hr2 := Lib.run_append_room_string (P := P) w t u ty e i ht hu hi hsize g n cap cur hg s hroom (by omega)
      have he := hr.symm.trans hr2
      injection he with e1 e2
      subst e1
      exact Or.inl rfl
    · have hsmall : n + s.size ≤ 9223372036854775807 := by simp only [maxLen] at h63; omega
      have hxl : xs.length = n := by simpa using hown.1
      have holds : ∀ j u, xs[j]? = some u → w.cell? ((⟨g, 0, none⟩ : Addr).add j) = some u := hown.cells (g := g) rfl
      have hr2 := Lib.run_append_grow_string (P := P) w t u ty e i (.int .u8 0) ht hu hi hz ⟨g, 0, none⟩ n cap xs (by rw [hsize]; simpa using hxl) holds s (by omega) (by omega) (by rw [hby]; exact growslice_fits (by omega) (by omega))
      have he := hr.symm.trans hr2
      injection he with e1 e2
      subst e1
      refine Or.inr (fun k hk => ?_)
      simp [Value.ownBlock] at hk
      omega

theorem wpList_append_str_fresh {ops : Array Oper} {rest : List Oper} {o : Oper} {a : Act} {Q : Exit → Act → World → Prop} (hgd : o.guard = none) (sl x : Operand) (t u : TypeId)
    (ho : o.op = .call { callee := .builtin .append, args := #[sl, x], argTypes := #[t, u] })
    (base : Nat) (e : TypeId) (i : TypeInfo) (ht : P.underlying t = some (.slice e)) (hu : P.underlying u = some .string) (hi : P.info? e = some i) (hz : i.zero = some (.int .u8 0))
    (hsize : i.size = 1) (hby : i.bytes = 1)
    (v : Value) (n : Nat) (xs : List Value) (hs : a.eval sl = v) (hown : w.ownsRow base e 1 v n xs) (s : ByteArray) (hx : a.eval x = .string s)
    (h63 : n + s.size ≤ maxLen) (hbytes : n + s.size ≤ 140737488355328) (hbase : base ≤ w.heap.size)
    (h : ∀ v' w', w'.ownsRow base e 1 v' (n + s.size) (xs ++ Lib.strCells s) → w.grownBy w' v.ownBlock → Fresh w v v' → wpList P ops Q rest (a.put o.dst v') w') : wpList P ops Q (o :: rest) a w := by
  refine wpList_plain hgd fun K hK => ?_
  obtain ⟨v', w', hr, h2, h3, h4⟩ := run_append_str_fresh (P := P) w base t u o.type e i ht hu hi hz hsize hby v n xs hown s h63 hbytes hbase
  unfold Oper.wp execOp
  simp only [ho, resolve, invoke, builtin, Sem.run_bind, Sem.run_pure, Result.andThen_ok, List.map_toArray, List.map_cons, List.map_nil, hs, hx, hr]
  exact hK _ _ (h v' w' h2 h3 h4)
end

/-- What an append keeps. -/
theorem keep_grown {w w' : World} {v : Value} (h : w.grownBy w' v.ownBlock) : Keep (fun k => v.ownBlock = some k) w w' := by
  obtain ⟨a, b, c, d, e⟩ := h
  exact ⟨a, b, c, d, fun k hk hm => e k hk (fun he => hm he.symm)⟩
theorem keep_drewN {w : World} (q : Nat) : Keep (fun _ => False) w (w.drewN q) := ⟨rfl, rfl, rfl, Nat.le_refl _, fun _ _ _ => rfl⟩
theorem row_keep {w w' : World} {b n sz : Nat} {t : TypeId} {v : Value} {xs : List Value} (h : w.ownsRow b t sz v n xs) (hk : ∀ k, v.ownBlock = some k → w'.heap[k]? = w.heap[k]?) : w'.ownsRow b t sz v n xs := by
  refine ⟨h.1, ?_⟩
  rcases h.2 with h | ⟨g, cap, cur, rfl, h1, h2, h3⟩
  · exact Or.inl h
  · exact Or.inr ⟨g, cap, cur, rfl, h1, (hk g rfl).trans h2, h3⟩
theorem row_keepK {w w' : World} {b n sz : Nat} {t : TypeId} {v : Value} {xs : List Value} {m : Nat → Prop} (h : w.ownsRow b t sz v n xs) (hk : Keep m w w') (hm : ∀ k, v.ownBlock = some k → ¬ m k) : w'.ownsRow b t sz v n xs :=
  row_keep h (fun k hb => hk.block k (h.lt k hb).2 (hm k hb))
end Go.Proofs.Qxb6604462aDoor
