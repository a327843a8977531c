/-
  seat b6604296aD: the law, walked: parseDecimal and the one-pass model answer alike at every JSON number.
-/
import Derived.Test.Qxb6604296aDoorJson
import Derived.Test.Qxb6604296aDoorParse
namespace Go.Proofs.Qxb6604296aDoor
open Go Go.RowKit

theorem exp_of {l : List UInt8} {c : Nat} (h : c = l.length ∨ ∃ d m, Pl.Ex l c d m) : ∃ E, ExpIs l c E := by
  rcases h with h | ⟨d, m, h⟩
  · exact ⟨0, Or.inl ⟨h, rfl⟩⟩
  · exact ⟨_, Or.inr ⟨d, m, h, rfl⟩⟩

/-- The two answers are one. -/
theorem ends_alike (l : List UInt8) (a b c : Nat) (E : Int) : ∃ (n : Bool) (dg : ByteArray) (pt : Int), (∀ e, ParseEnd l a b c E e → e = .returned (.agg #[.bool n, .string dg, .int .i64 pt])) ∧ (∀ e, ModelEnd l a b c E e → e = .returned (.tuple #[.bool n, .string dg, .int .i64 pt])) := by
  unfold ParseEnd ModelEnd
  by_cases h : (Pl.st l a c).2.1 = []
  · exact ⟨false, ⟨#[]⟩, 0, fun e he => by rw [if_pos h] at he; exact he, fun e he => by rw [if_pos h] at he; exact he⟩
  · exact ⟨_, _, _, fun e he => by rw [if_neg h] at he; exact he, fun e he => by rw [if_neg h] at he; exact he⟩

set_option maxRecDepth 100000 in
set_option maxHeartbeats 1000000 in
theorem zzparse (s : ByteArray) (w : World) (n : Bool) (dg : ByteArray) (pt : Int) (h : Calls Tryd.prog 9 #[.string s] w fun e w' => e = .returned (.agg #[.bool n, .string dg, .int .i64 pt]) ∧ Below w.heap.size w w') :
    Calls Tryd.prog 6 #[.string s] w fun e w' => e = .returned (.tuple #[.bool n, .string dg, .int .i64 pt]) ∧ Below w.heap.size w w' := by
  have H : Hid (Calls Tryd.prog 9 #[.string s] w fun e w' => e = .returned (.agg #[.bool n, .string dg, .int .i64 pt]) ∧ Below w.heap.size w w') := h
  clear h
  go_enter Tryd.func6, Tryd.ntmps6
  go_wp2_with (go_at_call 9; refine H.out.mono ?_; rintro e w1 ⟨rfl, hb⟩)
  go_quiet (fail)
  go_wp2
  go_ret3
  exact ⟨rfl, below_drewN (hb.alloc hb.size _) _⟩

set_option maxRecDepth 100000 in
set_option maxHeartbeats 1000000 in
theorem law (s : ByteArray) (w : World) (hs : s.size ≤ maxLen) (tp : TypeId) (p : Value) (hR : w.var? Tryd.prog "strconv.ErrRange" = some #[.iface tp p]) :
    Calls Tryd.prog 3 #[.string s] w fun e w' => e = .returned (.bool true) ∧ Below w.heap.size w w' := by
  unfold maxLen at hs
  by_cases hbig : 1048576 < s.size
  · clear hR
    go_enter Tryd.func3, Tryd.ntmps3
    go_wp2
    go_ret
    exact ⟨rfl, Below.refl _ _⟩
  have hsz : s.size ≤ 1048576 := by omega
  clear hs
  have HR : Hid (w.var? Tryd.prog "strconv.ErrRange" = some #[.iface tp p]) := hR
  clear hR
  have HJ := Lib.hid (json s w hsz)
  go_enter Tryd.func3, Tryd.ntmps3
  go_wp2_with (first | (go_at_call 5; refine HJ.out.mono ?_; rintro e w' ⟨⟨bb, rfl, hj⟩, rfl⟩; refine Hid.out ?_) | (go_at_call 4; go_in))
  refine Lib.hid ?_
  cases bb with
  | false =>
    clear hj
    go_wp2
    go_ret
    exact ⟨rfl, Below.refl _ _⟩
  | true =>
    obtain ⟨a, b, c, h2, hx⟩ := (hj rfl).cases
    obtain ⟨E, hE⟩ := exp_of hx
    have hM := fun w1 => model s w1 hsz a b c E h2 hE
    have hP := parse s w' hsz a b c E h2 hE tp p HR.out
    obtain ⟨n, dg, pt, k1, k2⟩ := ends_alike s.data.toList a b c E
    have HP := Lib.hid (zzparse s w' n dg pt (hP.mono fun e w h => ⟨k1 e h.1, h.2⟩))
    have HM := Lib.hid (fun w1 => (hM w1).mono fun e w (h : ModelEnd s.data.toList a b c E e ∧ Below w1.heap.size w1 w) => (⟨k2 e h.1, h.2⟩ : e = .returned (.tuple #[.bool n, .string dg, .int .i64 pt]) ∧ Below w1.heap.size w1 w))
    clear hM hP k1 k2 hE hx h2 hj HJ
    go_wp2_with (first | (go_at_call 6; refine HP.out.mono ?_; rintro e w1 ⟨rfl, hb1⟩) | (go_at_call 7; refine (HM.out _).mono ?_; rintro e w2 ⟨rfl, hb2⟩))
    go_ret
    exact ⟨rfl, hb1.trans (hb2.mono hb1.size)⟩
end Go.Proofs.Qxb6604296aDoor
