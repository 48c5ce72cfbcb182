/-
  Seat b6602792a: the walk of FnWalkerSkipPassesSeparatorAndSpace (7).
-/
import Derived.Test.Qxb6602792aSkipTwo
namespace Go.Proofs.Qxb6602792a
open Go.ChangeShapes Go.WideShapes Go.ChangeAt Go.RowKit

set_option maxRecDepth 100000 in
set_option maxHeartbeats 4000000 in
theorem walk7 (a0 : Option Addr) (l0 c0 : Nat) (D : Nat → Int) (x c : Int) (w : World) (h0 : In w a0 l0 D) (hl0 : l0 ≤ maxLen) :
    Calls Try.prog 7 #[.slice a0 l0 c0, .int .i64 x, .int .u8 c] w fun e w' => e = .returned (.bool true) ∧ Below w.heap.size w w' := by
  have HC := bytes19 a0 l0 c0 x c w hl0
  have H0 : Hid (In w a0 l0 D) := h0
  clear h0
  unfold maxLen at hl0
  by_cases g0 : (1048576 : Int) < (l0 : Int)
  · have d0 := decide_eq_true g0
    go_enter Try.func7, Try.ntmps7
    go_wp2_with (go_at_call 19; refine HC.mono ?_)
    rintro e w1 ⟨r, rfl, rfl⟩
    cases r
    · go_wp2; go_ret; exact ⟨rfl, Below.refl _ _⟩
    · go_wp2; go_ret; exact ⟨rfl, Below.refl _ _⟩
  have HK := clone16 a0 l0 c0 D w H0.out (by omega)
  have d0 := decide_eq_false g0
  by_cases g1 : x < 0
  · clear HK
    go_enter Try.func7, Try.ntmps7
    go_wp2_with (go_at_call 19; refine HC.mono ?_)
    rintro e w1 ⟨r, rfl, rfl⟩
    cases r
    · go_wp2; go_ret; exact ⟨rfl, Below.refl _ _⟩
    · go_wp2; go_ret; exact ⟨rfl, Below.refl _ _⟩
  obtain ⟨i, rfl⟩ : ∃ i : Nat, x = (i : Int) := ⟨x.toNat, by omega⟩
  go_enter Try.func7, Try.ntmps7
  go_wp2_with (go_at_call 19; refine HC.mono ?_)
  rintro e w1 ⟨r, rfl, rfl⟩
  clear HC
  cases r
  · go_wp2; go_ret; exact ⟨rfl, Below.refl _ _⟩
  go_wp2_with (go_at_call 16; refine HK.mono ?_)
  rintro e w2 ⟨a', c', rfl, hin, hbel⟩
  have HIN : Hid (In w2 a' l0 D) := hin
  have HBEL : Hid (Below w1.heap.size w1 w2) := hbel
  clear hin hbel HK
  go_wp2_with (go_at_call 20; refine (zskip20 a' l0 c' i c D w2 HIN.out (by omega)).mono ?_)
  rintro e w3 ⟨E, rfl, hsk, hbel3⟩
  have HSK : Hid (Skips D l0 i c E) := hsk
  have HB3 : Hid (Below w2.heap.size w2 w3) := hbel3
  have HBL : Hid (Below w1.heap.size w1 w3) := HBEL.out.trans (hbel3.mono HBEL.out.size)
  clear hsk hbel3
  by_cases hi : l0 ≤ i
  · have hE : E = i := HSK.out.1 hi
    subst hE
    go_wp2
    go_ret
    exact ⟨rfl, HBL.out⟩
  obtain ⟨b, o, rfl, hb, hc⟩ := HIN.out (by omega)
  have HC3 : Hid (∀ j, j < l0 → w3.cell? ⟨b, o + j, none⟩ = some (.int .u8 (D j))) := fun j hj => by rw [HB3.out.cell (p := ⟨b, o + j, none⟩) hb]; exact hc j hj
  clear hc
  have hil : i < l0 := by omega
  have hci : w3.cell? ⟨b, o + i, none⟩ = some (.int .u8 (D i)) := HC3.out i hil
  cases hx : (D i == c)
  · have hE : E = i := HSK.out.2.1 hil hx
    have hx' : (D i != c) = true := by rw [bne, hx]; rfl
    subst hE
    go_wp2
    go_ret
    exact ⟨rfl, HBL.out⟩
  have hx' : (D i != c) = false := by rw [bne, hx]; rfl
  have HL : Hid (Lands D l0 (i + 1) E) := HSK.out.2.2 hil hx
  have hE1 : i + 1 ≤ E := HL.out.1
  have hE2 : E ≤ l0 := HL.out.2.1
  have d1 : decide ((E : Int) ≤ (i : Int)) = false := decide_eq_false (by omega)
  have d3 : decide ((l0 : Int) < (E : Int)) = false := decide_eq_false (by omega)
  have d4 : decide (l0 < E) = false := decide_eq_false (by omega)
  have d2 : decide (E ≤ i) = false := decide_eq_false (by omega)
  go_wp2
  go_loopw [6, 8] (fun rv kv wr => ∃ k : Nat, rv = .bool false ∧ i + 1 ≤ k ∧ k ≤ E ∧ kv = .int .i64 k ∧ wr = w3) (fun _ kv _ => E - (intOf kv).toNat)
  case atStart => exact ⟨i + 1, rfl, Nat.le_refl _, hE1, by go_num, rfl⟩
  case round =>
    obtain ⟨k, rfl, hk1, hk2, rfl, hww⟩ := hrel
    subst hww
    by_cases hlt : k < E
    · have hck : wr.cell? ⟨b, o + k, none⟩ = some (.int .u8 (D k)) := HC3.out k (by omega)
      have HP := space21 (D k) wr
      rw [HL.out.2.2.1 k hk1 hlt] at HP
      go_wp2_with (go_at_call 21; refine HP.mono ?_)
      rintro e w5 ⟨rfl, rfl⟩
      go_wp2
      go_roundw
      case rel => exact ⟨k + 1, by first | exact trivial | rfl, by omega, by omega, by first | exact trivial | go_num, by first | exact trivial | rfl⟩
      case measure => simp [intOf]; omega
    · by_cases hEl : E < l0
      · have hcE : wr.cell? ⟨b, o + E, none⟩ = some (.int .u8 (D E)) := HC3.out E hEl
        have HP := space21 (D E) wr
        rw [HL.out.2.2.2 hEl] at HP
        go_wp2_with (go_at_call 21; refine HP.mono ?_)
        rintro e w5 ⟨rfl, rfl⟩
        go_wp2
        go_ret
        exact ⟨rfl, HBL.out⟩
      · go_wp2
        go_ret
        exact ⟨rfl, HBL.out⟩

end Go.Proofs.Qxb6602792a
