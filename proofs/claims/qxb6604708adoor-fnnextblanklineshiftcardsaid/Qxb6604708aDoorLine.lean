/-
  seat b6604708aD: (*jsonl.Reader).readLine, walked.
-/
import Derived.Test.Qxb6604708aDoorRow
namespace Go.Proofs.Qxb6604708aDoor
open Go Go.RowKit

/-- The first line of what is left, without its line feed; and how much is taken with it. -/
def lineOf (T : List UInt8) : List UInt8 := T.takeWhile (fun b => b != 10)
def stepOf (T : List UInt8) : Nat := min ((lineOf T).length + 1) T.length

theorem lineOf_all {T : List UInt8} (h : (10 : UInt8) ∉ T) : lineOf T = T := by
  induction T with
  | nil => rfl
  | cons b r ih =>
    have hb : b ≠ 10 := fun e => h (by simp [e])
    have ih' := ih (fun hm => h (by simp [hm]))
    unfold lineOf at ih' ⊢
    rw [List.takeWhile_cons, if_pos (by simp [hb]), ih']

theorem lineOf_at : ∀ {T : List UInt8} {j : Nat}, T[j]? = some 10 → (10 : UInt8) ∉ T.take j → lineOf T = T.take j
  | [], j, h, _ => by simp at h
  | b :: r, 0, h, _ => by
    simp at h
    subst h
    rfl
  | b :: r, j + 1, h, hn => by
    have hb : b ≠ 10 := fun e => hn (by simp [e])
    have ih := lineOf_at (T := r) (j := j) (by simpa using h) (fun hm => hn (by simp [hm]))
    unfold lineOf at ih ⊢
    rw [List.takeWhile_cons, if_pos (by simp [hb]), ih, List.take_succ_cons]

/-- The reader (block N + 3) and all that it leans on: at place p of s, having given num lines. -/
structure Rd (s : ByteArray) (N K p : Nat) (limit num : Int) (v : Value) (w : World) : Prop where
  bs : ∃ r e, Bs s N K p r e .nilIface w
  blk : w.heap[N + 3]? = some (.cells #[.pointer (some ⟨N + 1, 0, none⟩), .int .i64 limit, .int .i64 num, v] 47 (0, 0))

/-- The blocks that are the reader's own. -/
def Own (N : Nat) (v : Value) (k : Nat) : Prop := (N ≤ k ∧ k ≤ N + 3) ∨ v.ownBlock = some k

/-- How readLine leaves things. -/
def Lined (s : ByteArray) (N K p L : Nat) (limit num : Int) (v ev : Value) (w : World) (x : Ending) (w' : World) : Prop := ∃ v', Fresh w v v' ∧ Keep (Own N v) w w' ∧
  ((s.data.toList.drop p = [] ∧ x = .returned (.tuple #[.slice none 0 0, ev]) ∧ Rd s N K p limit num v' w' ∧ ∃ n xs, w'.ownsRow (N + 4) 5 1 v' n xs) ∨
   (s.data.toList.drop p ≠ [] ∧ x = .returned (.tuple #[v', .nilIface]) ∧ Rd s N K (p + stepOf (s.data.toList.drop p)) limit (num + 1) v' w' ∧
      w'.ownsRow (N + 4) 5 1 v' ((lineOf (s.data.toList.drop p)).take L).length (Lib.byteCells ((lineOf (s.data.toList.drop p)).take L))))

/-- The loop's state: q bytes of the line are taken. -/
structure Ls (s : ByteArray) (N K p L q : Nat) (limit num : Int) (v v1 : Value) (w wx : World) : Prop where
  bs : ∃ r e, Bs s N K (p + q) r e .nilIface wx
  blk : wx.heap[N + 3]? = some (.cells #[.pointer (some ⟨N + 1, 0, none⟩), .int .i64 limit, .int .i64 num, v1] 47 (0, 0))
  row : wx.ownsRow (N + 4) 5 1 v1 (min L q) (Lib.byteCells (((s.data.toList.drop p).take q).take L))
  le : p + q ≤ s.size
  fresh : Fresh w v v1
  keep : Keep (Own N v) w wx

/-- .. and a chunk of m' bytes of it (its line feed off) lies in the buffer. -/
structure Lm (s : ByteArray) (N K p L q m m' o : Nat) (limit num : Int) (v v1 ev fv : Value) (w wx : World) : Prop where
  bs : ∃ r e, Bs s N K (p + (q + m)) r e .nilIface wx
  cells : ∀ i, i < m' → wx.cell? ⟨N + 2, o + i, none⟩ = some (.int .u8 ((s.data.toList.drop (p + q)).getD i 0).toNat)
  blk : wx.heap[N + 3]? = some (.cells #[.pointer (some ⟨N + 1, 0, none⟩), .int .i64 limit, .int .i64 num, v1] 47 (0, 0))
  row : wx.ownsRow (N + 4) 5 1 v1 (min L q) (Lib.byteCells (((s.data.toList.drop p).take q).take L))
  le : p + (q + m) ≤ s.size
  mm : m' ≤ m
  fit : o + m ≤ K
  fresh : Fresh w v v1
  keep : Keep (Own N v) w wx
  sent : Sent N ev fv wx

/-- .. and the chunk is kept, as far as there is room. -/
structure Le (s : ByteArray) (N K p L q m m' : Nat) (limit num : Int) (v v2 ev fv : Value) (w wx : World) : Prop where
  bs : ∃ r e, Bs s N K (p + (q + m)) r e .nilIface wx
  blk : wx.heap[N + 3]? = some (.cells #[.pointer (some ⟨N + 1, 0, none⟩), .int .i64 limit, .int .i64 num, v2] 47 (0, 0))
  row : wx.ownsRow (N + 4) 5 1 v2 (min L (q + m')) (Lib.byteCells (((s.data.toList.drop p).take (q + m')).take L))
  le : p + (q + m) ≤ s.size
  fresh : Fresh w v v2
  keep : Keep (Own N v) w wx
  sent : Sent N ev fv wx

/-- What is kept of a line, and what is added to it. -/
theorem kept_add {T : List UInt8} {q L m' j : Nat} (hq : q < L) (hj : j = min (L - q) m') : Lib.byteCells ((T.take q).take L) ++ Lib.byteCells ((T.drop q).take j) = Lib.byteCells ((T.take (q + m')).take L) := by
  rw [← Lib.byteCells_append, List.take_take, List.take_take, Nat.min_eq_right (by omega), ← List.take_add, show min L (q + m') = q + j by omega]

theorem blk_grown {W W2 : World} {b : Nat} {o : Obj} {row : Option Nat} (g : W.grownBy W2 row) (hne : some b ≠ row) (hb : W.heap[b]? = some o) : W2.heap[b]? = some o :=
  (g.block b (block_lt hb) hne).trans hb
theorem slice_of_own {w : World} {b n : Nat} {v : Value} {xs : List Value} (h : w.ownsRow b 5 1 v n xs) : ∃ p n c, v = .slice p n c := by
  rcases h.2 with ⟨h, _⟩ | ⟨g, cap, cur, h, _⟩
  · exact ⟨_, _, _, h⟩
  · exact ⟨_, _, _, h⟩

theorem cell_grown {W W2 : World} {b i : Nat} {v : Value} {row : Option Nat} (g : W.grownBy W2 row) (hne : some b ≠ row) (hb : W.cell? ⟨b, i, none⟩ = some v ∧ b < W.heap.size) : W2.cell? ⟨b, i, none⟩ = some v := by
  rw [← hb.1]
  unfold World.cell?
  rw [g.block b hb.2 hne]
theorem free_grown {W W2 : World} {b i : Nat} {row : Option Nat} (g : W.grownBy W2 row) (hne : some b ≠ row) (hb : W.frozen? ⟨b, i, none⟩ = false ∧ b < W.heap.size) : W2.frozen? ⟨b, i, none⟩ = false := by
  rw [← hb.1]
  unfold World.frozen?
  rw [g.block b hb.2 hne]

theorem row_keep {w w' : World} {b n : Nat} {v : Value} {xs : List Value} (h : w.ownsRow b 5 1 v n xs) (hk : ∀ k, v.ownBlock = some k → w'.heap[k]? = w.heap[k]?) : w'.ownsRow b 5 1 v n xs := by
  refine ⟨h.1, ?_⟩
  rcases h.2 with h | ⟨g, cap, cur, rfl, h1, h2, h3⟩
  · exact Or.inl h
  · exact Or.inr ⟨g, cap, cur, rfl, h1, (hk g rfl).trans h2, h3⟩

theorem getD_take {T : List UInt8} {m i : Nat} (h : i < m) : (T.take m).getD i 0 = T.getD i 0 := by
  rw [List.getD_eq_getElem?_getD, List.getD_eq_getElem?_getD, List.getElem?_take_of_lt h]

theorem Bs.of_blocks {s : ByteArray} {N K p r e : Nat} {er : Value} {w w' : World} (h : Bs s N K p r e er w) (h0 : w'.heap[N]? = w.heap[N]?) (h1 : w'.heap[N + 1]? = w.heap[N + 1]?) (h2 : w'.heap[N + 2]? = w.heap[N + 2]?) : Bs s N K p r e er w' :=
  ⟨by rw [h0]; exact h.S, by rw [h1]; exact h.B, by rw [h2]; exact h.U, h.le, h.re, h.eK⟩

theorem le_of_append {s : ByteArray} {N K p L q m m' o j : Nat} {limit num : Int} {v v1 ev fv : Value} {w wc : World} (h : Lm s N K p L q m m' o limit num v v1 ev fv w wc) (hq : q < L) (hj : j = min (L - q) m')
    {W W2 : World} {v2 : Value} (hh : W.heap = wc.heap) (h1 : W.os = wc.os) (h2 : W.tape = wc.tape) (h3 : W.output = wc.output)
    (g1 : W2.ownsRow (N + 4) 5 1 v2 (min L q + j) (Lib.byteCells (((s.data.toList.drop p).take q).take L) ++ Lib.byteCells (((s.data.toList.drop p).drop q).take j))) (g2 : W.grownBy W2 v1.ownBlock) (g3 : Fresh W v1 v2) :
    Le s N K p L q m m' limit num v v2 ev fv w (W2.setCell ⟨N + 3, 3, none⟩ v2) := by
  have hlo : ∀ k, v1.ownBlock = some k → N + 4 ≤ k := fun k hk => (h.row.lt k hk).1
  have hK1 : Keep (fun k => v1.ownBlock = some k) wc W2 := ⟨g2.os.trans h1, g2.tape.trans h2, g2.output.trans h3, by rw [← hh]; exact g2.size, fun k hk hne => by
    rw [g2.block k (by rw [hh]; exact hk) (fun e => hne e.symm), hh]⟩
  have hK2 : Keep (fun k => v1.ownBlock = some k ∨ k = N + 3) wc (W2.setCell ⟨N + 3, 3, none⟩ v2) := (hK1.mono (m' := fun k => v1.ownBlock = some k ∨ k = N + 3) (fun k hk => Or.inl hk)).setCell (b := N + 3) (i := 3) (Or.inr rfl) v2
  have hsz : N + 3 < wc.heap.size := block_lt h.blk
  have hold : ∀ k, k < N + 3 → (W2.setCell ⟨N + 3, 3, none⟩ v2).heap[k]? = wc.heap[k]? := fun k hk => hK2.block k (by omega) (fun hh => by
    rcases hh with hh | hh
    · have := hlo k hh; omega
    · omega)
  have hbk : W2.heap[N + 3]? = some (.cells #[.pointer (some ⟨N + 1, 0, none⟩), .int .i64 limit, .int .i64 num, v1] 47 (0, 0)) :=
    (hK1.block (N + 3) hsz (fun hh => by have := hlo _ hh; omega)).trans h.blk
  obtain ⟨r, e, hb⟩ := h.bs
  refine ⟨⟨r, e, hb.of_blocks (hold N (by omega)) (hold (N + 1) (by omega)) (hold (N + 2) (by omega))⟩, ?_, ?_, h.le, ?_, ?_, ?_⟩
  · rw [block_setCell hbk]
    simp
  · rw [kept_add hq hj, show min L q + j = min L (q + m') by omega] at g1
    exact row_keep g1 (fun k hk => block_setCell_other (by have := (g1.lt k hk).1; omega) _)
  · refine h.fresh.trans h.keep.size ?_
    rcases g3 with g | g
    · exact Or.inl g
    · exact Or.inr (fun k hk => by rw [← hh]; exact g k hk)
  · refine h.keep.trans' hK2 (fun k hk => ?_)
    rcases hk with hk | hk
    · rcases h.fresh with hf | hf
      · exact Or.inl (Or.inr (hf ▸ hk))
      · exact Or.inr (hf k hk)
    · exact Or.inl (Or.inl ⟨by omega, by omega⟩)
  · exact h.sent.keep hK2 (fun k hk => by
      rcases hk with hk | hk
      · have := hlo k hk; omega
      · omega)

/-- The line is whole. -/
theorem lined_of {s : ByteArray} {N K p L q m m' : Nat} {limit num : Int} {v v2 ev fv : Value} {w wc : World} (h : Le s N K p L q m m' limit num v v2 ev fv w wc) (hmm : m' ≤ m) (hline : lineOf (s.data.toList.drop p) = (s.data.toList.drop p).take (q + m')) (hstep : stepOf (s.data.toList.drop p) = q + m) (hne : s.data.toList.drop p ≠ []) :
    Lined s N K p L limit num v ev w (.returned (.tuple #[v2, .nilIface])) (wc.setCell ⟨N + 3, 2, none⟩ (.int .i64 (num + 1))) := by
  obtain ⟨⟨r, e, hb⟩, hblk, hrow, hle, hfr, hkp, hse⟩ := h
  have hlo : ∀ k, v2.ownBlock = some k → N + 4 ≤ k := fun k hk => (hrow.lt k hk).1
  have hlen : min L (q + m') = (((s.data.toList.drop p).take (q + m')).take L).length := by
    rw [List.length_take, List.length_take, List.length_drop, ← Lib.size_eq]
    omega
  refine ⟨v2, hfr, hkp.setCell (Or.inl ⟨by omega, by omega⟩) _, Or.inr ⟨hne, rfl, ⟨⟨r, e, ?_⟩, ?_⟩, ?_⟩⟩
  · rw [hstep]
    exact hb.of_blocks (block_setCell_other (by omega) _) (block_setCell_other (by omega) _) (block_setCell_other (by omega) _)
  · rw [block_setCell hblk]
    simp
  · rw [hline, ← hlen]
    exact row_keep hrow (fun k hk => block_setCell_other (by have := hlo k hk; omega) _)

/-- The source is at its end. -/
theorem lined_end {s : ByteArray} {N K p L m' : Nat} {limit num : Int} {v v2 ev fv : Value} {w wc : World} (h : Le s N K p L 0 0 m' limit num v v2 ev fv w wc) (hne : s.data.toList.drop p = []) :
    Lined s N K p L limit num v ev w (.returned (.tuple #[.slice none 0 0, ev])) wc := by
  obtain ⟨⟨r, e, hb⟩, hblk, hrow, hle, hfr, hkp, hse⟩ := h
  exact ⟨v2, hfr, hkp, Or.inl ⟨hne, rfl, ⟨⟨r, e, hb⟩, hblk⟩, _, _, hrow⟩⟩

theorem ls_of {s : ByteArray} {N K p L q m : Nat} {limit num : Int} {v v2 ev fv : Value} {w wc : World} (h : Le s N K p L q m m limit num v v2 ev fv w wc) : Ls s N K p L (q + m) limit num v v2 w wc :=
  ⟨h.bs, h.blk, h.row, h.le, h.fresh, h.keep⟩

/-- What TrimSuffix leaves of a chunk. -/
theorem trimmed {T : List UInt8} {m : Nat} {A : Prop} (hm : m ≤ T.length) (h : (A ∧ ∃ i, m = i + 1 ∧ T[i]? = some 10 ∧ (10 : UInt8) ∉ T.take i) ∨ (10 : UInt8) ∉ T.take m) :
    ((A ∧ m = (if Lib.hasSuffix (T.take m) [10] then m - 1 else m) + 1 ∧ T[if Lib.hasSuffix (T.take m) [10] then m - 1 else m]? = some 10 ∧ (10 : UInt8) ∉ T.take (if Lib.hasSuffix (T.take m) [10] then m - 1 else m)) ∨
     ((if Lib.hasSuffix (T.take m) [10] then m - 1 else m) = m ∧ (10 : UInt8) ∉ T.take m)) := by
  rcases h with ⟨ha, i, rfl, h1, h2⟩ | h
  · have : Lib.hasSuffix (T.take (i + 1)) [10] = true := (hasSuffix_last _ i (by rw [List.length_take]; omega)).2 (by rw [List.getElem?_take_of_lt (by omega)]; exact h1)
    rw [if_pos this]
    exact Or.inl ⟨ha, rfl, h1, h2⟩
  · have : ¬ Lib.hasSuffix (T.take m) [10] = true := fun hh => by
      unfold Lib.hasSuffix at hh
      rw [List.isSuffixOf_iff_suffix] at hh
      exact h (hh.subset (by simp))
    rw [if_neg this]
    exact Or.inr ⟨rfl, h⟩

set_option maxRecDepth 100000 in
set_option maxHeartbeats 4000000 in
theorem readLine (s : ByteArray) (N K p L : Nat) (limit num : Int) (v ev fv : Value) (w : World) (hL : L = (limit + 1).toNat) (hl1 : -9223372036854775808 ≤ limit) (hl2 : limit < 9223372036854775807) (hn1 : 0 ≤ num) (hn2 : num ≤ 2000000)
    (hs : s.size ≤ 2000000) (hK0 : 0 < K) (hK : K ≤ 2000000) (hp : p ≤ s.size) (h : Rd s N K p limit num v w) (hrow : ∃ n xs, w.ownsRow (N + 4) 5 1 v n xs) (hsent : Sent N ev fv w) :
    Calls Tryd.prog 26 #[.pointer (some ⟨N + 3, 0, none⟩)] w fun x w' => Lined s N K p L limit num v ev w x w' := by
  have hi0 : ∃ i0 : TypeInfo, Tryd.prog.info? 5 = some i0 ∧ i0.zero = some (.int .u8 0) ∧ i0.size = 1 ∧ i0.bytes = 1 := by
    have h : (Tryd.prog.info? 5).map (fun i => (i.zero, i.size, i.bytes)) = some (some (.int .u8 0), 1, 1) := by kernel_rfl
    cases hh : Tryd.prog.info? 5 with
    | none => rw [hh] at h; cases h
    | some i => rw [hh] at h; simp at h; exact ⟨i, rfl, h.1, h.2.1, h.2.2⟩
  obtain ⟨i0, hi0, hz0, hz1, hz2⟩ := hi0
  have HRd := Lib.hid h
  have HSe := Lib.hid hsent
  obtain ⟨⟨r, e, hbs⟩, hLb⟩ := h
  have HBs := Lib.hid hbs
  have HLb := Lib.hid hLb
  have hbase : N + 4 ≤ w.heap.size := block_lt hLb
  have c3 : w.cell? ⟨N + 3, 3, none⟩ = some v := block_cell hLb
  have f3 : w.frozen? ⟨N + 3, 3, none⟩ = false := block_free hLb
  clear hbs hLb hsent
  obtain ⟨n0, xs0, hrow⟩ := hrow
  have HRow := Lib.hid hrow
  have hcase := hrow.2
  clear hrow
  go_enter Tryd.func26, Tryd.ntmps26
  go_upto_region 1 with fail
  go_cut [8] from 4 (fun _ wx => ∃ v1, Ls s N K p L 0 limit num v v1 w wx)
  case first =>
    have HLs : Hid (∀ v1 W, W = w.setCell ⟨N + 3, 3, none⟩ v1 → v1.ownBlock = v.ownBlock → W.ownsRow (N + 4) 5 1 v1 0 [] → Ls s N K p L 0 limit num v v1 w W) := Lib.hid fun v1 W hW ho hr => by
      subst hW
      refine ⟨⟨r, e, ?_⟩, ?_, ?_, by omega, Or.inl ho, (Keep.refl _ w).setCell (Or.inl ⟨by omega, by omega⟩) _⟩
      · obtain ⟨a1, a2, a3, a4, a5, a6⟩ := HBs.out
        exact ⟨by rw [block_setCell_other (by omega)]; exact a1, by rw [block_setCell_other (by omega)]; exact a2, by rw [block_setCell_other (by omega)]; exact a3, a4, a5, a6⟩
      · rw [block_setCell HLb.out]
        simp
      · simpa [Lib.byteCells] using hr
    rcases hcase with ⟨rfl, rfl⟩ | ⟨g, cap, cur, rfl, hbg, hg, hnc, hcm, hcs, htake⟩
    · go_wp2
      go_meet
      exact ⟨_, HLs.out _ _ rfl rfl (World.ownsRow_nil _ _ _ _)⟩
    · have HG := Lib.hid hg
      have hcm' : (cap : Int) ≤ 9223372036854775807 := by simp only [maxLen] at hcm; omega
      clear hg htake
      go_wp2
      go_meet
      refine ⟨_, HLs.out _ _ rfl rfl ⟨by simp, Or.inr ⟨g, cap, cur, rfl, hbg, ?_, Nat.zero_le _, hcm, hcs, by simp⟩⟩⟩
      rw [block_setCell_other (by omega)]
      exact HG.out
  case rest =>
  obtain ⟨v1, hls⟩ := hcut
  have HLs := Lib.hid hls
  clear hls c3 f3 hcase
  go_wp2_with fail
  go_loopg [4] (s.size - p) (fun g x4 wx => ∃ q v1, x4 = .bool (decide (0 < q)) ∧ g = s.size - (p + q) ∧ (10 : UInt8) ∉ (s.data.toList.drop p).take q ∧ Ls s N K p L q limit num v v1 w wx)
  case atStart => exact ⟨0, v1, rfl, by omega, by simp, HLs.out⟩
  case round =>
    clear HLs
    obtain ⟨q, v1, rfl, hg, hnl, hls⟩ := hrel
    have HLs := Lib.hid hls
    have HNl := Lib.hid hnl
    have HG := Lib.hid hg
    obtain ⟨⟨r1, e1, hbs⟩, hblk, hrow, hle, hfr, hkp⟩ := hls
    have hse : Sent N ev fv wr := HSe.out.keep hkp (fun k hk => by
      rcases hk with hk | hk
      · omega
      · have := (HRow.out.lt k hk).1; omega)
    have hrs := readSlice s N K (p + q) r1 e1 wr ev fv hs hK0 hK hbs hse.E hse.F hse.ev_iface hse.low
    have c0 : wr.cell? ⟨N + 3, 0, none⟩ = some (.pointer (some ⟨N + 1, 0, none⟩)) := block_cell hblk
    have HRs := Lib.hid hrs
    have HSe1 := Lib.hid hse
    clear hrs hbs hblk hrow hfr hkp hse hg hnl
    go_wp2_with (go_at_call 29; refine HRs.out.mono ?_; rintro x w1 ⟨⟨o, m, r2, e2, err, rfl, hgot⟩, hk1⟩; refine Hid.out ?_)
    refine Lib.hid ?_
    have HGot := Lib.hid hgot
    have hk1' : Keep (Own N v) wr w1 := hk1.mono (fun k hk => Or.inl (by omega))
    have hb1 : w1.heap[N + 3]? = some (.cells #[.pointer (some ⟨N + 1, 0, none⟩), .int .i64 limit, .int .i64 num, v1] 47 (0, 0)) := (hk1.block _ (block_lt HLs.out.blk) (by omega)).trans HLs.out.blk
    have hr1 : w1.ownsRow (N + 4) 5 1 v1 (min L q) (Lib.byteCells (((s.data.toList.drop p).take q).take L)) := row_keep HLs.out.row (fun k hk => by
      have := HLs.out.row.lt k hk
      exact hk1.block k this.2 (by omega))
    have hgle := hgot.le
    have hgfit := hgot.fit
    have hTl : m ≤ (s.data.toList.drop (p + q)).length := by rw [List.length_drop, ← Lib.size_eq]; omega
    have hcells : ∀ i, i < m → w1.cell? ⟨N + 2, o + i, none⟩ = some (.int .u8 ((s.data.toList.drop (p + q)).getD i 0).toNat) := fun i hi => by
      obtain ⟨U, hU, _, hd⟩ := hgot.row
      rw [block_cell hU]
      exact row_cell hd hTl i hi
    have hsent1 : Sent N ev fv w1 := HSe1.out.keep hk1 (fun k hk => by omega)
    obtain ⟨m', hm'⟩ : ∃ m', m' = if Lib.hasSuffix ((s.data.toList.drop (p + q)).take m) [10] then m - 1 else m := ⟨_, rfl⟩
    have hsplit := trimmed (A := err = .nilIface) hTl (by
      rcases hgot.how with h | ⟨_, _, h⟩ | ⟨_, _, h⟩
      · exact Or.inl h
      · exact Or.inr h
      · exact Or.inr (fun hm => h (List.mem_of_mem_take hm)))
    rw [← hm'] at hsplit
    have hmm : m' ≤ m := by rcases hsplit with ⟨_, h, _⟩ | ⟨h, _⟩ <;> omega
    have HLm : Hid (Lm s N K p L q m m' o limit num v v1 ev fv w (w1.alloc (.cells #[.int .u8 10] 5))) := Lib.hid (by
      have hka : Keep (own3 N) wr (w1.alloc (.cells #[.int .u8 10] 5)) := hk1.alloc _
      have hold : ∀ k, k < w1.heap.size → (w1.alloc (.cells #[.int .u8 10] 5)).heap[k]? = w1.heap[k]? := fun k hk => heap_alloc_old w1 _ hk
      refine ⟨⟨r2, e2, ?_⟩, fun i hi => ?_, (hold _ (block_lt hb1)).trans hb1, row_keep hr1 (fun k hk => hold k (hr1.lt k hk).2), by omega, hmm, hgfit, HLs.out.fresh, (HLs.out.keep.trans hk1').alloc _, hsent1.keep ((Keep.refl (fun _ => False) w1).alloc _) (fun k hk => hk.elim)⟩
      · obtain ⟨⟨pv, a1⟩, ⟨lb, ls, a2⟩, ⟨U, a3, a3'⟩, a4, a5, a6⟩ := hgot.bs
        rw [← Nat.add_assoc]
        exact ⟨⟨pv, (hold _ (block_lt a1)).trans a1⟩, ⟨lb, ls, (hold _ (block_lt a2)).trans a2⟩, ⟨U, (hold _ (block_lt a3)).trans a3, a3'⟩, a4, a5, a6⟩
      · have h1 := hcells i (by omega)
        have hlt := World.block_lt_of_cell? w1 _ h1
        unfold World.cell? at h1 ⊢
        rw [hold _ hlt]
        exact h1)
    have CT : ∀ W, W = w1.alloc (.cells #[.int .u8 10] 5) → Calls Tryd.prog 30 #[.slice (some ⟨N + 2, o, none⟩) m (K - o), .slice (some ⟨w1.heap.size, 0, none⟩) 1 1] W fun x w' => x = .returned (.slice (some ⟨N + 2, o, none⟩) m' (K - o)) ∧ w' = W := fun W hW => by
      rw [hm']
      exact trim_nl (N + 2) o w1.heap.size m (K - o) 1 ((s.data.toList.drop (p + q)).take m) W (by rw [List.length_take]; omega) (by omega) (by omega) (fun i hi => by
        have h1 := hcells i hi
        have hlt := World.block_lt_of_cell? w1 _ h1
        rw [getD_take hi, ← h1, hW]
        unfold World.cell?
        rw [heap_alloc_old w1 _ hlt]) (by rw [hW, block_cell (heap_alloc_new w1 _)]; rfl)
    have HCT := Lib.hid CT
    have HSp := Lib.hid hsplit
    have HHow := Lib.hid hgot.how
    clear CT hsplit hsent1 hcells hr1 hb1 hk1' hgot hk1 hm'
    go_upto_region 4 with fail
    go_cut [4] from 16 to 85 (fun x wx => x = .bool (decide (0 < q + m)) ∧ wx = w1)
    case first =>
      have hmi : (m : Int) ≤ 2000000 := by omega
      by_cases hq : 0 < q
      · rw [decide_eq_true hq]
        go_wp2
        go_meet
        exact ⟨by rw [decide_eq_true (by omega)], rfl⟩
      · rw [decide_eq_false hq]
        go_wp2
        go_meet
        exact ⟨by rw [show q + m = m by omega], rfl⟩
    case rest =>
    obtain ⟨rfl, rfl⟩ := hcut
    go_upto_region 5 with fail
    go_cut [5] from 16 to 85 (fun x wx => x = .slice (some ⟨N + 2, o, none⟩) m' (K - o) ∧ Lm s N K p L q m m' o limit num v v1 ev fv w wx)
    case first =>
      go_wp2_with (go_at_call 30; refine (HCT.out _ ?_).mono ?_; rfl; rintro x w2 ⟨rfl, rfl⟩)
      go_meet
      exact ⟨rfl, HLm.out⟩
    case rest =>
    clear HLm HCT HLs HGot
    obtain ⟨rfl, hlm⟩ := hcut
    have HLm := Lib.hid hlm
    have c1 : wc.cell? ⟨N + 3, 1, none⟩ = some (.int .i64 limit) := block_cell hlm.blk
    have c3 : wc.cell? ⟨N + 3, 3, none⟩ = some v1 := block_cell hlm.blk
    obtain ⟨lq, hlq⟩ : ∃ lq, lq = min L q := ⟨_, rfl⟩
    have hlqL : (lq : Int) ≤ limit + 1 ∨ lq = 0 := by omega
    have hlqs : lq ≤ 2000000 := by have := hlm.le; omega
    have HLq := Lib.hid hlq
    have HL := Lib.hid hL
    have hw1 : -9223372036854775808 ≤ limit + 1 - (lq : Int) := by omega
    have hw2 : limit + 1 - (lq : Int) ≤ 9223372036854775807 := by omega
    have hcase := hlm.row.2
    rw [← hlq] at hcase
    clear hlm hL hlq
    go_upto_region 6 with fail
    go_cut [7] from 16 to 85 (fun x wx => x = .int .i64 (limit + 1 - (lq : Int)) ∧ ∃ n, wx = wc.drewN n)
    case first =>
      rcases hcase with ⟨rfl, rfl⟩ | ⟨g, cap, cur, rfl, hbg, hgg, hnc, hcm, hcs, htake⟩
      · go_quiet (fail)
        go_wp2
        go_meet
        exact ⟨by simp, _, rfl⟩
      · clear hgg htake
        go_quiet (fail)
        go_wp2
        go_meet
        exact ⟨rfl, _, rfl⟩
    case rest =>
    obtain ⟨rfl, nq, rfl⟩ := hcut
    go_upto_if 45 with fail
    go_cut [7, 46] from 16 to 85 (fun _ _ wx => ∃ v2, Le s N K p L q m m' limit num v v2 ev fv w wx)
    case first =>
      by_cases hroom : q < L
      · obtain ⟨j, hj⟩ : ∃ j, j = min (L - q) m' := ⟨_, rfl⟩
        obtain ⟨R, hR⟩ : ∃ R, R = L - q := ⟨_, rfl⟩
        have hRi : limit + 1 - (lq : Int) = (R : Int) := by have := HLq.out; have := HL.out; omega
        have hR0 : (0 : Int) < (R : Int) := by omega
        have hlm := HLm.out
        have hlq2 : lq = q := by have := HLq.out; omega
        have hmb : m' ≤ 2000000 := by have := hlm.le; have := hlm.mm; omega
        have hTd : (s.data.toList.drop p).drop q = s.data.toList.drop (p + q) := List.drop_drop
        have hjl : j ≤ ((s.data.toList.drop p).drop q).length := by
          have := hlm.le; have := hlm.mm
          rw [hTd, List.length_drop, ← Lib.size_eq]; omega
        have hnl : (Lib.byteCells (((s.data.toList.drop p).drop q).take j)).length = j * 1 := by
          rw [Lib.byteCells_length, List.length_take]; omega
        have hnews : ∀ i u, (Lib.byteCells (((s.data.toList.drop p).drop q).take j))[i]? = some u → wc.cell? ((⟨N + 2, o, none⟩ : Addr).add i) = some u := fun i u hu => by
          have hi : i < j := by
            have := (List.getElem?_eq_some_iff.1 hu).1
            omega
          rw [addr_add, hlm.cells i (by omega), ← hTd]
          unfold Lib.byteCells at hu
          rw [List.getElem?_map, List.getElem?_take_of_lt hi, List.getElem?_eq_getElem (by omega)] at hu
          rw [List.getD_eq_getElem?_getD, List.getElem?_eq_getElem (by omega)]
          simpa using hu
        have hrow := hlm.row
        have hblk := hlm.blk
        have hbse : N + 4 ≤ wc.heap.size := block_lt hblk
        have HBlk := Lib.hid hblk
        have HRow1 := Lib.hid hrow
        have HNews := Lib.hid hnews
        have HNewl := Lib.hid hnl
        have HJ := Lib.hid hj
        rw [show decide ((lq : Int) < limit + 1) = true from decide_eq_true (by omega), hRi]
        have hjK : j ≤ K - o := by have := hlm.fit; have := hlm.mm; omega
        have hjK' : (j : Int) ≤ ((K - o : Nat) : Int) := by omega
        have hmin : min (R : Int) (m' : Int) = (j : Int) := by omega
        have hj2 : lq + j ≤ 2000000 := by have := hlm.le; have := hlm.mm; omega
        clear hlm hTd hnl hnews hrow hblk hj hRi hR
        · 
          go_upto_region 8 with fail
          have hne : some (N + 3) ≠ v1.ownBlock := fun hh => by have := HRow1.out.lt (N + 3) hh.symm; omega
          have hc3 : ∀ n, (wc.drewN n).heap[N + 3]? = some (.cells #[.pointer (some ⟨N + 1, 0, none⟩), .int .i64 limit, .int .i64 num, v1] 47 (0, 0)) := fun _ => HBlk.out
          have HC3 : Hid ((wc.drewN (nq + 1)).cell? ⟨N + 3, 3, none⟩ = some v1 ∧ N + 3 < (wc.drewN (nq + 1)).heap.size) := Lib.hid ⟨block_cell (hc3 _), block_lt (hc3 _)⟩
          have HF3 : Hid ((wc.drewN (nq + 1)).frozen? ⟨N + 3, 3, none⟩ = false ∧ N + 3 < (wc.drewN (nq + 1)).heap.size) := Lib.hid ⟨block_free (hc3 _), block_lt (hc3 _)⟩
          clear hc3
          have hres := Lib.hid (fun (W W2 : World) (v2 : Value) (a1 : W.heap = wc.heap) (a2 : W.os = wc.os) (a3 : W.tape = wc.tape) (a4 : W.output = wc.output) => le_of_append HLm.out hroom HJ.out a1 a2 a3 a4 (W2 := W2) (v2 := v2))
          go_region_law (refine step_is_append _ (.tmp 50) (.tmp 56) 25 rfl ?_; refine step_append_fresh _ rfl (.tmp 50) (.tmp 56) 25 rfl (N + 4) 5 i0 (.int .u8 0) 1 1 Tryd.underlying25 hi0 hz0 hz1 hz2 rfl (by decide) v1 (min L q) (Lib.byteCells (((s.data.toList.drop p).take q).take L)) rfl HRow1.out ⟨N + 2, o, none⟩ j (K - o) (Lib.byteCells (((s.data.toList.drop p).drop q).take j)) rfl HNewl.out HNews.out (Lib.byteCells_one _) (by unfold maxLen; have := HLq.out; omega) (by have := HLq.out; omega) hbse ?_; intro v2 w2 g1 g2 g3; obtain ⟨pp, nn, cc, rfl⟩ := slice_of_own g1; have gc : w2.cell? ⟨N + 3, 3, none⟩ = some v1 := cell_grown g2 hne HC3.out; have gf : w2.frozen? ⟨N + 3, 3, none⟩ = false := free_grown g2 hne HF3.out)
          all_goals
            go_wp2
            go_meet
            exact ⟨_, hres.out (wc.drewN (nq + 1)) _ _ rfl rfl rfl rfl g1 g2 g3⟩
      · have hno : ¬ (0 : Int) < limit + 1 - (lq : Int) := by have := HLq.out; have := HL.out; omega
        go_wp2
        go_meet
        refine ⟨v1, ?_⟩
        obtain ⟨⟨r3, e3, a1⟩, a2, a3, a4, a5, a6, a7, a8, a9, a10⟩ := HLm.out
        refine ⟨⟨r3, e3, a1.of_heap rfl⟩, a3, ?_, a5, a8, a9.drewN _, a10.keep (keep_drewN _ _) (fun k hk => hk.elim)⟩
        have e1 : min L (q + m') = min L q := by omega
        have e2 : ((s.data.toList.drop p).take (q + m')).take L = ((s.data.toList.drop p).take q).take L := by
          rw [List.take_take, List.take_take, e1]
        rw [e1, e2]
        exact a4
    case rest =>
    obtain ⟨v2, hle2⟩ := hcut
    clear HLm c1 c3 hcase HSe1 HRs c0
    have hse := hle2.sent
    have hE := hse.E
    have hF := hse.F
    have qff := hse.eq_ff
    have qee := hse.eq_ee
    have qef := hse.eq_ef
    have qnf := nil_eq wc fv hse.fv_iface
    have qne := nil_eq wc ev hse.ev_iface
    have k2 : wc.cell? ⟨N + 3, 2, none⟩ = some (.int .i64 num) := block_cell hle2.blk
    have k3 : wc.cell? ⟨N + 3, 3, none⟩ = some v2 := block_cell hle2.blk
    have kf2 : wc.frozen? ⟨N + 3, 2, none⟩ = false := block_free hle2.blk
    have HLe := Lib.hid hle2
    obtain ⟨ae, af, ca, cb, ta, tb, rfl, rfl, _⟩ := hse.two
    clear hle2 hse
    rcases HSp.out with ⟨rfl, hmm1, hat, hnl2⟩ | ⟨hmm1, hnl2⟩
    · -- the line feed is found
      have hfin : (s.data.toList.drop p)[q + m']? = some 10 ∧ (10 : UInt8) ∉ (s.data.toList.drop p).take (q + m') := by
        rw [← List.drop_drop] at hat hnl2
        rw [List.getElem?_drop] at hat
        refine ⟨hat, fun hm => ?_⟩
        rw [List.take_add, List.mem_append] at hm
        exact hm.elim HNl.out hnl2
      have HFin := Lib.hid hfin
      have HM := Lib.hid hmm1
      clear hfin hat hnl2 hmm1 qff qee qef
      have hnum : num + 1 ≤ 9223372036854775807 := by omega
      go_wp2
      go_ret2
      have hTl2 : q + m' < (s.data.toList.drop p).length := (List.getElem?_eq_some_iff.1 HFin.out.1).1
      have hline := lineOf_at HFin.out.1 HFin.out.2
      refine lined_of HLe.out hmm hline ?_ (fun h => by rw [h] at hTl2; simp at hTl2)
      unfold stepOf
      rw [hline, List.length_take]
      have := HM.out
      omega
    · subst hmm1
      have hnlq : (10 : UInt8) ∉ (s.data.toList.drop p).take (q + m') := fun hm => by
        rw [List.take_add, List.mem_append, List.drop_drop] at hm
        exact hm.elim HNl.out hnl2
      rcases HHow.out with ⟨_, i, hi, h1, _⟩ | ⟨rfl, hmK, _⟩ | ⟨rfl, hend, _⟩
      · exact absurd (List.mem_of_getElem? (i := i) (by rw [List.getElem?_take_of_lt (by omega)]; exact h1)) hnl2
      · have hle3 := HLe.out.le
        have HNlq := Lib.hid hnlq
        clear hnlq hnl2 qnf qne qee qef
        go_wp2
        go_roundg (s.size - (p + (q + m')))
        case measure => have := HG.out; omega
        case rel => exact ⟨q + m', v2, by rw [hmK], rfl, HNlq.out, ls_of HLe.out⟩
      · have hle3 := HLe.out.le
        have hall : (10 : UInt8) ∉ s.data.toList.drop p := by
          rw [List.take_of_length_le (by rw [List.length_drop, ← Lib.size_eq]; omega)] at hnlq
          exact hnlq
        have HAll := Lib.hid hall
        clear hall hnlq hnl2 qnf qne qff
        by_cases hz : 0 < q + m'
        · rw [decide_eq_true hz]
          have hnum : num + 1 ≤ 9223372036854775807 := by omega
          go_wp2
          go_ret2
          have hlen : (s.data.toList.drop p).length = q + m' := by rw [List.length_drop, ← Lib.size_eq]; omega
          refine lined_of HLe.out (Nat.le_refl _) ?_ ?_ (fun h => by rw [h] at hlen; simp at hlen; omega)
          · rw [lineOf_all HAll.out, List.take_of_length_le (by omega)]
          · unfold stepOf
            rw [lineOf_all HAll.out, hlen]
            omega
        · rw [decide_eq_false hz]
          obtain rfl : q = 0 := by omega
          obtain rfl : m' = 0 := by omega
          go_wp2
          go_ret2
          refine lined_end HLe.out ?_
          rw [List.drop_eq_nil_iff, ← Lib.size_eq]
          omega
end Go.Proofs.Qxb6604708aDoor
