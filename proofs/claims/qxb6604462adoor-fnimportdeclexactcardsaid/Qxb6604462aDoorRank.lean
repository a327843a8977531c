/-
  seat b6604462aD: plain: indices sorted by path; the groups as bytes; what a round of the law's own block keeps.
-/
import Derived.Test.Qxb6604462aDoorFull
import Derived.Test.Qxb6604462aDoorDecl
namespace Go.Proofs.Qxb6604462aDoor
open Go Go.RowKit Go.Sort

/-- Paths in one row, aliases in another, both kept. -/
def entAt (es : List Ent) (k : Nat) : Ent := es.getD k (⟨#[]⟩, ⟨#[]⟩)
theorem entAt_lt {es : List Ent} {k : Nat} (h : k < es.length) : entAt es k = es[k] := by simp [entAt, h]
/-- The order of indices. -/
def ltI (es : List Ent) (a b : Nat) : Bool := bltP (entAt es a) (entAt es b)
theorem ltI_swo (es : List Ent) : SWO (ltI es) where
  irrefl _ := u8_swo.irrefl _
  trans _ _ _ := u8_swo.trans _ _ _
  ntrans _ _ _ := u8_swo.ntrans _ _ _

def idxCells (D : Array Nat) : Array Value := D.map (fun k : Nat => Value.int .i64 (k : Int))
theorem idx_size (D : Array Nat) : (idxCells D).size = D.size := by simp [idxCells]
theorem idx_get {D : Array Nat} {j : Nat} (h : j < D.size) : (idxCells D)[j]? = some (.int .i64 (D[j]! : Nat)) := by
  simp [idxCells, h, getElem!_pos]
theorem idx_set {D : Array Nat} {j : Nat} (x : Nat) : (idxCells D).setIfInBounds j (.int .i64 (x : Int)) = idxCells (D.setIfInBounds j x) := by
  apply Array.ext_getElem?
  intro i
  simp only [idxCells, Array.getElem?_map, Array.getElem?_setIfInBounds, Array.size_map]
  split
  · split <;> simp
  · rfl

/-- The sorted indices read as the sorted lines. -/
theorem rank_end {es : List Ent} {D : Array Nat} (hs : D.size = es.length) (hp : D.toList.Perm (List.range es.length)) (ho : SortedIn (ltI es) 0 es.length D) :
    (D.toList.map (entAt es)).Perm es ∧ (D.toList.map (entAt es)).Pairwise (fun x y => bltP y x = false) := by
  constructor
  · have h1 := hp.map (entAt es)
    have h2 : (List.range es.length).map (entAt es) = es := by
      apply List.ext_getElem
      · simp
      · intro i h1 h2
        simp [entAt_lt h2]
    rw [h2] at h1
    exact h1
  · rw [List.pairwise_map]
    have := pairwise_of (d := D) (lt := ltI es) (by rw [hs]; exact ho)
    exact this

theorem perm_lt {es : List Ent} {D : Array Nat} (hs : D.size = es.length) (hp : D.toList.Perm (List.range es.length)) {j : Nat} (h : j < es.length) : D[j]! < es.length := by
  have hj : j < D.size := by omega
  rw [getElem!_pos D j hj]
  have : D[j] ∈ D.toList := by simp
  exact List.mem_range.1 (hp.mem_iff.1 this)

theorem perm_swp {es : List Ent} {D : Array Nat} {a b : Nat} (hs : D.size = es.length) (hp : D.toList.Perm (List.range es.length)) (ha : a < es.length) (hb : b < es.length) : (swp D a b).toList.Perm (List.range es.length) := by
  have h := swp_permIn D 0 es.length a b (Nat.zero_le _) ha (Nat.zero_le _) hb (by omega)
  have h3 := h.2.2
  rw [show (swp D a b).extract 0 es.length = swp D a b by rw [← hs, ← swp_size D a b]; exact Array.extract_size, show D.extract 0 es.length = D by rw [← hs]; exact Array.extract_size] at h3
  exact h3.trans hp

/-- A group's bytes. -/
def tb (p : Ent → Bool) (d : List Ent) : List UInt8 := tabbed ((d.filter p).map lineB)
def fl (p : Ent → Bool) (d : List Ent) : Nat := (d.filter p).length
theorem tb_yes {p : Ent → Bool} {d : List Ent} {k : Nat} (hk : k < d.length) (h : p d[k] = true) : tb p (d.take (k + 1)) = tb p (d.take k) ++ [9] ++ lineB d[k] ++ [10] ∧ fl p (d.take (k + 1)) = fl p (d.take k) + 1 := by
  unfold tb fl
  rw [← List.take_append_getElem hk, List.filter_append, show List.filter p [d[k]] = [d[k]] by simp [h], List.map_append]
  constructor
  · simp [tabbed]
  · simp
theorem tb_no {p : Ent → Bool} {d : List Ent} {k : Nat} (hk : k < d.length) (h : p d[k] = false) : tb p (d.take (k + 1)) = tb p (d.take k) ∧ fl p (d.take (k + 1)) = fl p (d.take k) := by
  unfold tb fl
  rw [← List.take_append_getElem hk, List.filter_append, show List.filter p [d[k]] = [] by simp [h], List.append_nil]
  exact ⟨rfl, rfl⟩
theorem tabbed_len (m : Nat) : ∀ A : List (List UInt8), (∀ a ∈ A, a.length ≤ m) → (tabbed A).length ≤ A.length * (m + 2)
  | [], _ => by simp [tabbed]
  | a :: A, h => by
    have h1 := h a (by simp)
    have ih := tabbed_len m A (fun x hx => h x (by simp [hx]))
    have e : tabbed (a :: A) = 9 :: (a ++ [10]) ++ tabbed A := by simp [tabbed]
    rw [e]
    simp only [List.length_append, List.length_cons, List.length_nil, Nat.add_mul] at *
    omega
theorem tabbed_pos {A : List (List UInt8)} (h : 0 < A.length) : 0 < (tabbed A).length := by
  cases A with
  | nil => simp at h
  | cons a A => simp [tabbed]
theorem fl_le (p : Ent → Bool) (d : List Ent) (k : Nat) : fl p (d.take k) ≤ k := by
  unfold fl
  have h1 := List.length_filter_le p (d.take k)
  rw [List.length_take] at h1
  omega
theorem tb_len {p : Ent → Bool} {d : List Ent} (hsz : ∀ e ∈ d, e.1.size ≤ 1048576 ∧ e.2.size ≤ 1048600) (k : Nat) (hk : k ≤ 1000) : (tb p (d.take k)).length ≤ 2200000000 := by
  have h1 := tabbed_len 2100000 (((d.take k).filter p).map lineB) (fun a ha => by
    obtain ⟨e, he, rfl⟩ := List.mem_map.1 ha
    have := hsz e (List.mem_of_mem_take (List.mem_filter.1 he).1)
    have h2 := lineS_size e this.1 this.2
    rw [Lib.size_eq, lineS_data] at h2
    exact h2)
  rw [List.length_map] at h1
  have h2 := fl_le p d k
  unfold fl at h2
  unfold tb
  omega
theorem tb_nil {p : Ent → Bool} {d : List Ent} (h : fl p d = 0) : tb p d = [] := by
  unfold fl at h
  unfold tb
  rw [List.length_eq_zero_iff.1 h]
  rfl
theorem tb_pos {p : Ent → Bool} {d : List Ent} (h : 0 < fl p d) : 0 < (tb p d).length := tabbed_pos (by rw [List.length_map]; exact h)

/-- The law's own loop: k are laid. -/
structure Lm (M : Nat) (d : List Ent) (k : Nat) (sv ov : Value) (w2 w : World) : Prop where
  s : w.ownsRow M 5 1 sv (tb std (d.take k)).length (Lib.byteCells (tb std (d.take k)))
  o : w.ownsRow M 5 1 ov (tb (fun e => !std e) (d.take k)).length (Lib.byteCells (tb (fun e => !std e) (d.take k)))
  sn : fl std (d.take k) = 0 → sv = .slice none 0 0
  on : fl (fun e => !std e) (d.take k) = 0 → ov = .slice none 0 0
  ap : ∀ j, sv.ownBlock = some j → ov.ownBlock ≠ some j
  kp : Keep (fun _ => False) w2 w

theorem Lm.std {M : Nat} {d : List Ent} {k : Nat} {sv ov v1 : Value} {w2 w W1 : World} (h : Lm M d k sv ov w2 w) (hk : k < d.length) (hs : Go.Proofs.Qxb6604462aDoor.std d[k] = true) (hM : M = w2.heap.size)
    (ha : Ap M sv w (tb Go.Proofs.Qxb6604462aDoor.std (d.take k) ++ [9] ++ lineB d[k] ++ [10]) v1 W1) : Lm M d (k + 1) v1 ov w2 W1 := by
  have hy := tb_yes hk hs
  have hn := tb_no (p := fun e => !Go.Proofs.Qxb6604462aDoor.std e) hk (by simp [hs])
  refine ⟨?_, ?_, ?_, ?_, ?_, ?_⟩
  · rw [hy.1]; exact ha.row
  · rw [hn.1]; exact row_keepK h.o ha.kp (fun j hj hs => h.ap j hs hj)
  · intro h0; rw [hy.2] at h0; omega
  · rw [hn.2]; exact h.on
  · intro j hj hoj
    rcases ha.fr with hf | hf
    · exact h.ap j (hf ▸ hj) hoj
    · have h1 := hf j hj
      have h2 := (h.o.lt j hoj).2
      omega
  · exact h.kp.trans' ha.kp (fun j hj => Or.inr (by have := (h.s.lt j hj).1; omega))

theorem Lm.oth {M : Nat} {d : List Ent} {k : Nat} {sv ov v1 : Value} {w2 w W1 : World} (h : Lm M d k sv ov w2 w) (hk : k < d.length) (hs : Go.Proofs.Qxb6604462aDoor.std d[k] = false) (hM : M = w2.heap.size)
    (ha : Ap M ov w (tb (fun e => !Go.Proofs.Qxb6604462aDoor.std e) (d.take k) ++ [9] ++ lineB d[k] ++ [10]) v1 W1) : Lm M d (k + 1) sv v1 w2 W1 := by
  have hn := tb_no hk hs
  have hy := tb_yes (p := fun e => !Go.Proofs.Qxb6604462aDoor.std e) hk (by simp [hs])
  refine ⟨?_, ?_, ?_, ?_, ?_, ?_⟩
  · rw [hn.1]; exact row_keepK h.s ha.kp (fun j hj hs => h.ap j hj hs)
  · rw [hy.1]; exact ha.row
  · rw [hn.2]; exact h.sn
  · intro h0; rw [hy.2] at h0; omega
  · intro j hj hoj
    rcases ha.fr with hf | hf
    · exact h.ap j hj (hf ▸ hoj)
    · have h1 := hf j hoj
      have h2 := (h.s.lt j hj).2
      omega
  · exact h.kp.trans' ha.kp (fun j hj => Or.inr (by have := (h.o.lt j hj).1; omega))

/-- 'append(s, nil...)': as it was. -/
theorem wpList_append_nil_arg {P : Program} {w : World} {ops : Array Oper} {rest : List Oper} {o : Oper} {a : Act} {Q : Exit → Act → World → Prop} (hgd : o.guard = none) (s x : Operand) (t : TypeId)
    (ho : o.op = .call { callee := .builtin .append, args := #[s, x], argTypes := #[t, t] })
    (e : TypeId) (i : TypeInfo) (ht : P.underlying t = some (.slice e)) (hi : P.info? e = some i)
    (b : Addr) (n c : Nat) (hnc : n ≤ c) (hs : a.eval s = .slice (some b) n c) (hx : a.eval x = .slice none 0 0)
    (h : wpList P ops Q rest (a.put o.dst (.slice (some b) n c)) w) : wpList P ops Q (o :: rest) a w := by
  refine wpList_plain hgd fun K hK => ?_
  have hrun : (Builtin.append_ #[t, t] o.type #[.slice (some b) n c, .slice none 0 0]).run P w = .ok (.slice (some b) n c) w := by
    simp [Builtin.append_, run_underlying ht, sizeOf, typeInfo, hi, Builtin.lenOf, Builtin.firstCells, hnc, storeCells]
  unfold Oper.wp
  simp [execOp, ho, resolve, invoke, builtin, hs, hx, hrun, Result.andThen]
  exact hK _ _ h
end Go.Proofs.Qxb6604462aDoor
