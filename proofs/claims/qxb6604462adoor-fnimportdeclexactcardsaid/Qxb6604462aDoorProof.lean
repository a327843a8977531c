/-
  seat b6604462aD: the row of FnImportDeclExact and its tied card, out of the walk (Qxb6604462aDoorLaw) and the given tie (Qxb6604462aDoorTie).
-/
import Derived.Test.Qxb6604462aDoorRows
import Derived.Test.Qxb6604462aDoorTie
import Derived.Test.Qxb6604462aDoorCards
import Derived.Test.Qxb6604462aDoorLaw
import Derived.Test.Qxb6604462aDoorMany
import Derived.WalkKit
import Derived.ProofKit
import Derived.OpenShut
import Derived.Lay
import Derived.Lib.LaidTab
import Derived.Lib.LaidU8
import Derived.Lib.LaidPrint
import Derived.SliceStrings
import Derived.Carry
import Derived.Stop.LaidErr
import Derived.SevenTiedAt
namespace Go.Proofs.Qxb6604462aDoor
open Go Go.ChangeShapes Go.WideShapes Go.ChangeAt Go.RowKit

set_option maxRecDepth 100000 in
/-- The law's own block, however many imports. -/
theorem modelDecl (bp ba : Nat) (es : List Ent) (w : World) (h : EntsAt bp ba es w) (hl : es.length ≤ 1000) (hsz : ∀ e ∈ es, e.1.size ≤ 1048576 ∧ e.2.size ≤ 1048600) :
    Calls Tryd.prog 13 #[.slice (some ⟨bp, 0, none⟩) es.length es.length, .slice (some ⟨ba, 0, none⟩) es.length es.length] w fun e w' => DeclPost es w e w' := by
  rcases Nat.lt_or_ge 1 es.length with h2 | h2
  · exact modelMany bp ba es w h h2 hl hsz
  · by_cases h1 : es.length = 1
    · exact modelOne bp ba es w h h1 hsz
    · have hes : es = [] := List.length_eq_zero_iff.1 (by omega)
      subst hes
      clear h hsz hl h2 h1
      go_enter Tryd.func13, Tryd.ntmps13
      go_wp2
      go_ret
      exact ⟨⟨#[]⟩, [], rfl, List.Perm.refl _, List.Pairwise.nil, rfl, Keep.refl _ _⟩

theorem len_two {α : Type} : ∀ {l : List α}, l.length = 2 → ∃ a b, l = [a, b]
  | [a, b], _ => ⟨a, b, rfl⟩

def strIn : Option Value → ByteArray
  | some (.string s) => s
  | _ => ⟨#[]⟩

theorem cells9 : Tryd.prog.cellsOf 9 = 1 := by kernel_rfl
theorem cells33 : Tryd.prog.cellsOf 33 = 2 := by kernel_rfl

section
variable {H : Type} {enc : TypeId × Value → H} {w : World} {base : Nat} {spare : Nat → Bool} {held : Bool}
/-- A slice of pairs among the arguments, opened. -/
theorem open_pairs {fuel : Nat} {cs : List Value} {x : DataW H × List MemPlace} (h : DataW.trod enc Tryd.prog w base spare held fuel 22 cs = some x) :
    cs = [.slice none 0 0] ∨ ∃ (a : Addr) (cap : Nat) (es : List Ent), cs = [.slice (some a) es.length cap] ∧ Imps w (some a) es := by
  rcases DataW.trod_slice Tryd.underlying22 h with ⟨h0, _⟩ | ⟨a, len, cap, elems, rest, n, _, rfl, _, _, _, _, hlen, hel, _, _⟩
  · exact Or.inl h0
  right
  have each : ∀ i, i < len → ∃ s1 s2, w.cell? (a.add (i * 2)) = some (.string s1) ∧ w.cell? ⟨(a.add (i * 2)).block, (a.add (i * 2)).off + 1, none⟩ = some (.string s2) := fun i hi => by
    have h1 := hel i hi
    rw [cells33, List.getElem?_eq_getElem (by omega), Option.bind_eq_some_iff] at h1
    obtain ⟨cs', hcs, hy⟩ := h1
    obtain ⟨y0, y1, m, _, hl2, t0, t1⟩ := trod_struct2 Tryd.underlying33 hy
    obtain ⟨_, hl3, hget⟩ := World.cells?_some hcs
    obtain ⟨s1, e1, _, _⟩ := DataW.trod_string Tryd.underlying9 t0
    obtain ⟨s2, e2, _, _⟩ := DataW.trod_string Tryd.underlying9 t1
    have e1 : List.take (Tryd.prog.cellsOf 9) (List.drop 0 cs') = [.string s1] := e1
    have e2 : List.take (Tryd.prog.cellsOf 9) (List.drop 1 cs') = [.string s2] := e2
    rw [cells9] at e1 e2
    clear t0 t1 hy hl2
    obtain ⟨u0, u1, hu⟩ := len_two hl3
    rw [hu] at e1 e2
    have g0 := hget 0 (by omega)
    have g1 := hget 1 (by omega)
    rw [hu] at g0 g1
    injection e1 with e1 _
    injection e2 with e2 _
    rw [e1] at g0
    rw [e2] at g1
    exact ⟨s1, s2, g0, g1⟩
  refine ⟨a, cap, (List.range len).map (fun i => (strIn (w.cell? (a.add (i * 2))), strIn (w.cell? ⟨(a.add (i * 2)).block, (a.add (i * 2)).off + 1, none⟩))), by simp, fun i hi => ⟨a, rfl, ?_, ?_⟩⟩
  · have hi' : i < len := by simpa using hi
    obtain ⟨s1, s2, e1, e2⟩ := each i hi'
    simp only [List.getElem_map, List.getElem_range, e1]
    rfl
  · have hi' : i < len := by simpa using hi
    obtain ⟨s1, s2, e1, e2⟩ := each i hi'
    simp only [List.getElem_map, List.getElem_range, e2]
    rfl
end

theorem own : ownKnob Tryd.prog.godebug = none := by kernel_rfl
theorem laidOut' : laidOutB Tryd.prog = true := by kernel_rfl

set_option maxRecDepth 100000 in
theorem tabs_of {W : World} (hL : laidMet Tryd.prog Rows.fnImportDeclExactRow.laid W) : Tabs W := by
  have r3 : Lib.VarReads Tryd.prog W "unicode/utf8.acceptRanges" Rows.laid_unicode_utf8_acceptRanges := Lib.laidMet.reads hL (.tail _ (.tail _ (.tail _ (.head _))))
  have r5 : Lib.VarReads Tryd.prog W "strconv.isNotPrint16" Rows.laid_strconv_isNotPrint16 := Lib.laidMet.reads hL (.tail _ (.tail _ (.tail _ (.tail _ (.tail _ (.head _))))))
  have r6 : Lib.VarReads Tryd.prog W "strconv.isNotPrint32" Rows.laid_strconv_isNotPrint32 := Lib.laidMet.reads hL (.tail _ (.tail _ (.tail _ (.tail _ (.tail _ (.tail _ (.head _)))))))
  have r7 : Lib.VarReads Tryd.prog W "strconv.isPrint16" Rows.laid_strconv_isPrint16 := Lib.laidMet.reads hL (.tail _ (.tail _ (.tail _ (.tail _ (.tail _ (.tail _ (.tail _ (.head _))))))))
  have r8 : Lib.VarReads Tryd.prog W "strconv.isPrint32" Rows.laid_strconv_isPrint32 := Lib.laidMet.reads hL (.tail _ (.tail _ (.tail _ (.tail _ (.tail _ (.tail _ (.tail _ (.tail _ (.head _)))))))))
  have r9 : Lib.VarReads Tryd.prog W "unicode/utf8.first" Rows.laid_unicode_utf8_first := Lib.laidMet.reads hL (.tail _ (.tail _ (.tail _ (.tail _ (.tail _ (.tail _ (.tail _ (.tail _ (.tail _ (.head _))))))))))
  have h2 : laidMet Tryd.prog (("internal/strconv.uint64pow10", Rows.laid_internal_strconv_uint64pow10) :: Rows.fnImportDeclExactRow.laid.drop 3) W := laidMet.tail (laidMet.tail hL)
  rw [show (Rows.laid_unicode_utf8_acceptRanges : DataW Unit) = Lib.acceptData by kernel_rfl] at r3
  rw [show Rows.laid_strconv_isNotPrint16 = Lib.sliceData .u16 Lib.goPrintTabs.n16 by kernel_rfl] at r5
  rw [show Rows.laid_strconv_isNotPrint32 = Lib.sliceData .u16 Lib.goPrintTabs.n32 by kernel_rfl] at r6
  rw [show Rows.laid_strconv_isPrint16 = Lib.sliceData .u16 Lib.goPrintTabs.p16 by kernel_rfl] at r7
  rw [show Rows.laid_strconv_isPrint32 = Lib.sliceData .u32 Lib.goPrintTabs.p32 by kernel_rfl] at r8
  rw [show Rows.laid_unicode_utf8_first = Lib.firstData by kernel_rfl] at r9
  rw [show (Rows.laid_internal_strconv_uint64pow10 : DataW Unit) = Lib.tabData .u64 Lib.pow10Tab by kernel_rfl] at h2
  refine ⟨Lib.tabIs_of_head (g := 1) (t := 112) (e := 84) (n := 20) (by kernel_rfl) (by kernel_rfl) Tryd.underlying112 Tryd.underlying84 (by kernel_rfl) (by kernel_rfl) h2, ?_, ?_⟩
  · exact printTabs_of_reads (ρ := Tryd.lays177_ren) { Tryd.lays177 with } ⟨by kernel_rfl, by kernel_rfl, by kernel_rfl, by kernel_rfl, by kernel_rfl, by kernel_rfl, by kernel_rfl, by kernel_rfl, by kernel_rfl, by kernel_rfl⟩ r7 r5 r8 r6
  · exact utf8Tabs_of_reads (ρ := Tryd.lays177_ren) { Tryd.lays177 with } ⟨by kernel_rfl, by kernel_rfl, by kernel_rfl, by kernel_rfl, by kernel_rfl, by kernel_rfl, by kernel_rfl⟩ r9 r3

set_option maxRecDepth 100000 in
theorem lifted (os : Os) (started : os.Started) (H : Type) (enc : TypeId × Value → H) :
    ReturnsInHanded {} Tryd.checked os 3 .any (fun w args => (Rows.fnImportDeclExactSpec.pre enc Tryd.prog Tryd.f3 [] false w args ∧ laidMetH Tryd.prog Rows.fnImportDeclExactRow.laid w) ∧ sizedMet enc Tryd.prog Tryd.f3 (OpenSpec.ofChange Rows.fnImportDeclExactSpec) false w args)
      (Rows.fnImportDeclExactSpec.post enc Tryd.prog Tryd.f3 false true false false) := by
  refine returnsInHanded_of_change_and (C := Tryd.checked) (X := fun w _ => laidMetH Tryd.prog Rows.fnImportDeclExactRow.laid w) (fun _ _ _ hh h => h.of_heap hh) own started (by kernel_rfl) Tryd.func3
    (ChangeSpec.witness_shaped (enc := enc) (C := Tryd.checked) (os := os) (X := fun w _ => laidMetH Tryd.prog Rows.fnImportDeclExactRow.laid w) false (World.laidAll Tryd.prog os Rows.fnImportDeclExactRow.laid) #[.slice none 0 0, .slice none 0 0] 8 (World.laidAll_os _ _ _)
      (World.shaped_of_ZipB (by kernel_rfl) (by kernel_rfl)) (by kernel_rfl) (by kernel_rfl) (by kernel_rfl)
      (by rw [MakeChecks.laidMetH_plain _ _ _ (by kernel_rfl)]; exact laidMet_laidAll _ (by kernel_rfl) (by kernel_rfl))) ?_
  intro W base args ds gs before hval0 hW _ _ hL _
  have hval : ∀ (j : Nat) t v, Tryd.f3.params[j]? = some t → args[j]? = some v → Value.okWide Tryd.prog W .any base t v := hval0
  have hW' := hW
  obtain ⟨p, q, hA0, hV, rfl, _, _⟩ := hW
  have hA : DataW.TrodAll enc Tryd.prog W 0 (fun _ => true) true Tryd.f3.params.toList args.toList ds p := hA0
  rw [Tryd.params3] at hA hval
  obtain ⟨v0, v1, d0, d1, q0, q1, rfl, rfl, rfl, h0, h1⟩ := trodAll_two hA
  obtain ⟨rfl, rfl⟩ := trodVars_none hV
  simp only [List.append_nil] at hW'
  rw [MakeChecks.laidMetH_plain _ _ _ (by kernel_rfl)] at hL
  have htab := tabs_of hL
  have hlt0 : ∀ x ∈ q0, x.block < W.heap.size := fun x hx => hW'.lt x (by simp [hx])
  have hlt1 : ∀ x ∈ q1, x.block < W.heap.size := fun x hx => hW'.lt x (by simp [hx])
  obtain ⟨a0, len0, cap0, hv0⟩ := okWide_slice Tryd.underlying22 (hval 0 22 v0 rfl rfl)
  obtain ⟨a1, len1, cap1, hv1⟩ := okWide_slice Tryd.underlying23 (hval 1 23 v1 rfl rfl)
  have o0 : ∃ (p : Option Addr) (c : Nat) (es : List Ent), v0 = .slice p es.length c ∧ Imps W p es ∧ (p = none → es.length = 0 ∧ c = 0) := by
    obtain ⟨fuel, hf⟩ := h0
    subst hv0
    rcases open_pairs hf with hcs | ⟨a, cap, es, hcs, him⟩
    · injection hcs with e _
      exact ⟨none, 0, [], e, fun i hi => by simp at hi, fun _ => ⟨rfl, rfl⟩⟩
    · injection hcs with e _
      exact ⟨some a, cap, es, e, him, fun h => by cases h⟩
  have o1 : ∃ (p : Option Addr) (c : Nat) (ss : List ByteArray), v1 = .slice p ss.length c ∧ Strs W p ss ∧ (p = none → ss.length = 0 ∧ c = 0) := by
    obtain ⟨fuel, hf⟩ := h1
    subst hv1
    rcases open_strings Tryd.underlying23 Tryd.underlying9 cells9 hf with ⟨hcs, _⟩ | ⟨a, len, cap, ss, hcs, _, hlc, _, hln, _, hcell, _⟩
    · injection hcs with e _
      exact ⟨none, 0, [], e, fun i hi => by simp at hi, fun _ => ⟨rfl, rfl⟩⟩
    · injection hcs with e _
      simp only [if_true] at hln
      refine ⟨some a, cap, ss.take len, by rw [e, List.length_take, Nat.min_eq_left (by omega)], fun i hi => ⟨a, rfl, ?_⟩, fun h => by cases h⟩
      have hi2 : i < ss.length := by rw [List.length_take] at hi; omega
      rw [hcell i hi2]
      simp [hi2]
  obtain ⟨p0, c0, es, rfl, him, hn0⟩ := o0
  obtain ⟨p1, c1, ss, rfl, hst, hn1⟩ := o1
  refine (law p0 p1 c0 c1 es ss W him hst hn0 hn1 htab modelDecl).mono fun e W' ⟨he, hk⟩ => ?_
  subst he
  have bel : Below W.heap.size W W' := hk.below (Nat.le_refl _) (fun _ h => h.elim)
  exact ⟨_, rfl, _, _, _, [], q0 ++ q1, [], hW', trodAll_mk1 (shut_bool Tryd.underlying4 _), trodAll_mk2 (Below.trod laidOut' (by kernel_rfl) (of_decide_eq_true (by kernel_rfl)) h0 bel hlt0) (Below.trod laidOut' (by kernel_rfl) (of_decide_eq_true (by kernel_rfl)) h1 bel hlt1), rfl, bel.frame _, fun h => by cases h⟩

theorem holds : Rows.FnImportDeclExactSaid :=
  OpenClaim.holds_of_wide 3 Tryd.f3 rfl rfl rfl rfl rfl rfl rfl ⟨rfl, rfl, rfl, rfl, rfl⟩ rfl rfl rfl rfl rfl (by kernel_rfl) Tryd.func3 (by kernel_rfl)
    (of_decide_eq_true (by kernel_rfl)) (by unfold Func.isWrapper; first | (rw [if_pos (by decide +kernel)]; kernel_rfl) | (rw [if_neg (by decide +kernel)]; exact ⟨rfl, rfl⟩))
    (fun os started H enc _ => lifted os started H enc)

/-- ████ THE STATEMENT: the tied card ████ -/
theorem card_holds : Rows.FnImportDeclExactCardSaid :=
  Claim7.holds_tied_plain_at .later [] [.data, .data, .data, .data, .pinned, .pinned, .pinned, .pinned, .pinned, .pinned] true Rows.fnImportDeclExactCard.stood.harness false
    holds (fun _ h => by cases h) (by kernel_rfl) (fun _ h => by cases h) fnImportDeclExact_row_tie rfl ⟨rfl, rfl⟩ (by kernel_rfl) rfl
    (fun f fn hf hfn => by
      obtain rfl : f = 3 := Option.some.inj ((show Tryd.prog.funcNamed Rows.fnImportDeclExactRow.func = some 3 by kernel_rfl).symm.trans hf) |>.symm
      obtain rfl : fn = Tryd.f3 := (Option.some.inj (Tryd.func3.symm.trans hfn)).symm
      exact ⟨by kernel_rfl, fun j t ht => by
        rw [Tryd.params3] at ht
        have hm : t ∈ [22, 23] := by simpa using Array.mem_of_getElem? ht
        have hall : ([22, 23].all fun u => !Tryd.prog.wantsStandIn u) = true := by kernel_rfl
        exact (show Tryd.prog.wantsStandIn t = false by simpa using List.all_eq_true.1 hall t hm)⟩)
    (by kernel_rfl)
end Go.Proofs.Qxb6604462aDoor
