/-
  Seat b6602792a: the contract of 'cloneBytes' (16).
-/
import Derived.Test.Qxb6602792aEsc
import Derived.Lib.SliceRun
namespace Go.Proofs.Qxb6602792a
open Go.ChangeShapes Go.WideShapes Go.ChangeAt Go.RowKit

set_option maxRecDepth 100000 in
set_option maxHeartbeats 1000000 in
/-- 'cloneBytes': the same bytes in new memory (nil for nil). -/
theorem clone16 (a : Option Addr) (len cap : Nat) (D : Nat → Int) (w : World) (h : In w a len D) (hl : len ≤ 1048576) :
    Calls Try.prog 16 #[.slice a len cap] w fun e w' => ∃ a' c', e = .returned (.slice a' len c') ∧ In w' a' len D ∧ Below w.heap.size w w' := by
  have H : Hid (In w a len D) := h
  clear h
  have hnil := fun W => Lib.run_eql_slice_nil (P := Try.prog) W 32 5 a len cap 0 0 Try.underlying32
  have hmk := fun w => run_make_row' (P := Try.prog) 32 5 (.int .u8 0) 1 Try.underlying32 (by kernel_rfl) rfl .i64 .i64 len (by omega) (by omega) w
  cases a with
  | none =>
    simp only [Option.isNone_none] at hnil
    have hz : len = 0 := by
      rcases Nat.eq_zero_or_pos len with h | h
      · exact h
      · obtain ⟨b, o, h1, _⟩ := H.out h; cases h1
    subst hz
    go_enter Try.func16, Try.ntmps16
    go_wp2
    go_ret
    exact ⟨none, 0, rfl, fun h => absurd h (Nat.lt_irrefl _), Below.refl _ _⟩
  | some x =>
    simp only [Option.isNone_some] at hnil
    go_enter Try.func16, Try.ntmps16
    go_wp2
    go_loopw [4] (fun i wr => ∃ j : Nat, j ≤ len ∧ i = .int .i64 j ∧ Hid (wr.rowIs w.heap.size 5 len (fun q => .int .u8 (if q < j then D q else 0))) ∧ Hid (Below w.heap.size w wr)) (fun i _ => len - (intOf i).toNat)
    case atStart => exact ⟨0, Nat.zero_le _, rfl, (World.rowIs_made w (.int .u8 0) len 5).congr (fun q _ => by simp), (Below.refl _ _).alloc (Nat.le_refl _) _⟩
    case round =>
      obtain ⟨j, hj, rfl, HROW, HBEL⟩ := hrel
      by_cases hlt : j < len
      · obtain ⟨b, o, hx, hb, hc⟩ := H.out (by omega)
        obtain rfl := Option.some.inj hx
        have hcj : wr.cell? ⟨b, o + j, none⟩ = some (.int .u8 (D j)) := by
          rw [HBEL.out.cell (p := ⟨b, o + j, none⟩) hb]; exact hc j hlt
        obtain ⟨old, hold⟩ : ∃ old, wr.cell? ⟨w.heap.size, j, none⟩ = some old := ⟨_, HROW.out.cell hlt⟩
        have hfz : wr.frozen? ⟨w.heap.size, j, none⟩ = false := HROW.out.frozen j
        clear hc hx
        go_wp2
        go_roundw
        case rel => exact ⟨j + 1, by omega, by go_num, (HROW.out.set j (.int .u8 (D j))).congr (fun q _ => by
          by_cases e : q = j
          · simp [e]
          · by_cases e2 : q < j
            · simp [e, e2, Nat.lt_succ_of_lt e2]
            · have : ¬ q < j + 1 := by omega
              simp [e, e2, this]), HBEL.out.setCell (Nat.le_refl _) _⟩
        case measure => simp [intOf]; omega
      · have hrow : Hid (wr.rowIs w.heap.size 5 len (fun q => .int .u8 (D q))) := HROW.out.congr (fun q hq => by rw [if_pos (by omega)])
        go_wp2
        go_ret
        exact ⟨_, _, rfl, fun _ => ⟨w.heap.size, 0, rfl, hrow.out.lt, fun q hq => by rw [Nat.zero_add]; exact hrow.out.cell hq⟩, HBEL.out⟩

end Go.Proofs.Qxb6602792a
