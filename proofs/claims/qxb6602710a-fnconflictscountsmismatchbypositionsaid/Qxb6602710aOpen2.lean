/-
  Seat b6602710a: the arguments opened: []int, []bool.
-/
import Derived.Test.Qxb6602710aOpen
namespace Go.Proofs.Qxb6602710a
open Go.ChangeShapes Go.WideShapes Go.ChangeAt Go.RowKit Go.Deep

section
variable {H : Type} {enc : TypeId × Value → H} {W : World}

theorem open_nums {fuel : Nat} {a : Option Addr} {len cap : Nat} {x : DataW H × List MemPlace} (h : DataW.trod enc Try.prog W 0 (fun _ => true) true fuel 23 [.slice a len cap] = some x) :
    len ≤ maxLen ∧ ∃ nd : Nat → Int, (∀ i, i < len → -9223372036854775808 ≤ nd i ∧ nd i ≤ 9223372036854775807) ∧ IsCells W a len (fun i => .int .i64 (nd i)) := by
  rcases open_ints Try.underlying23 Try.underlying3 Try.cells3 h with ⟨hcs', _⟩ | ⟨ad, len', cap', zs, hcs', _, hl, hm, hz, _, hcell, hwz⟩
  · simp at hcs'
    obtain ⟨rfl, rfl, rfl⟩ := hcs'
    exact ⟨Nat.zero_le _, fun _ => 0, fun i hi => absurd hi (Nat.not_lt_zero _), .inl (by omega)⟩
  · simp at hcs'
    obtain ⟨rfl, rfl, rfl⟩ := hcs'
    simp only [if_true] at hz
    refine ⟨Nat.le_trans hl hm, fun i => zs.getD i 0, fun i hi => ?_, isCells_of fun i hi => hcell i (by omega)⟩
    have hi' : i < zs.length := by omega
    have := hwz (zs.getD i 0) (by rw [List.getD_eq_getElem?_getD, List.getElem?_eq_getElem hi']; exact List.getElem_mem hi')
    exact bounds_i64 this

theorem open_bools {fuel : Nat} {a : Option Addr} {len cap : Nat} {x : DataW H × List MemPlace} (h : DataW.trod enc Try.prog W 0 (fun _ => true) true fuel 24 [.slice a len cap] = some x) :
    len ≤ maxLen ∧ ∃ rv : Nat → Bool, IsCells W a len (fun i => .bool (rv i)) := by
  rcases open_slice1 Try.underlying24 Try.cells4 h with ⟨hcs', _⟩ | ⟨ad, len', cap', m, n, V, D, Pl, hcs', _, hl, hm, hmm, _, hx⟩
  · simp at hcs'
    obtain ⟨rfl, rfl, rfl⟩ := hcs'
    exact ⟨Nat.zero_le _, fun _ => false, .inl (by omega)⟩
  · simp at hcs'
    obtain ⟨rfl, rfl, rfl⟩ := hcs'
    simp only [if_true] at hmm
    subst hmm
    obtain ⟨rv, hrv⟩ := choose_lt (α := Bool) (p := fun i r => V i = .bool r) (fun i (hi : i < len) => by
      obtain ⟨r, e, _⟩ := DataW.trod_bool Try.underlying4 (hx i (by omega)).2
      simp only [List.cons.injEq, and_true] at e
      exact ⟨r, e⟩)
    refine ⟨Nat.le_trans hl hm, rv, isCells_of fun i hi => ?_⟩
    rw [(hx i (by omega)).1, hrv i hi]

end
end Go.Proofs.Qxb6602710a
