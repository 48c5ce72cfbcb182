/-
  Seat b6602792a: the walk of FnWalkerStrEndsAtFirstUnescapedQuote (5).
-/
import Derived.Test.Qxb6602792aClone
namespace Go.Proofs.Qxb6602792a
open Go.ChangeShapes Go.WideShapes Go.ChangeAt Go.RowKit

/-! ### The plain law -/

/-- The run of backslashes that ends ahead of j, counted back no further than i + 1. -/
def runAt (D : Nat → Int) (i : Nat) : Nat → Nat
  | 0 => 0
  | j + 1 => if i < j ∧ D j = 92 then runAt D i j + 1 else 0

theorem runAt_on {D : Nat → Int} {i j : Nat} (h : i < j) (e : D j = 92) : runAt D i (j + 1) = runAt D i j + 1 := by rw [runAt, if_pos ⟨h, e⟩]
theorem runAt_off {D : Nat → Int} {i j : Nat} (h : ¬ (i < j ∧ D j = 92)) : runAt D i (j + 1) = 0 := by rw [runAt, if_neg h]

/-- A quote behind an even run. -/
def Ends (D : Nat → Int) (i q : Nat) : Prop := D q = 34 ∧ runAt D i q % 2 = 0

/-- The offsets at which the loop of 'str' stands. -/
def At (D : Nat → Int) (i E j : Nat) : Prop := i + 1 ≤ j ∧ j ≤ E ∧ runAt D i j % 2 = 0

theorem at_start (D : Nat → Int) (i E : Nat) (h : i + 1 ≤ E) : At D i E (i + 1) := ⟨Nat.le_refl _, h, by rw [runAt_off (by omega)]⟩
theorem at_step (D : Nat → Int) (i E : Nat) (hE : Ends D i E) (hno : ∀ q, i < q → q < E → ¬ Ends D i q) : ∀ j, At D i E j → j < E → D j ≠ 34 ∧ (D j = 92 → At D i E (j + 2)) ∧ (D j ≠ 92 → At D i E (j + 1)) := by
  rintro j ⟨h1, h2, h3⟩ hlt
  refine ⟨fun e => hno j h1 hlt ⟨e, h3⟩, fun e => ?_, fun e => ⟨by omega, hlt, by rw [runAt_off (fun h => e h.2)]⟩⟩
  have r1 := runAt_on (D := D) (i := i) (j := j) h1 e
  have hne : j + 1 ≠ E := by
    intro he
    have := hE.2
    rw [← he, r1] at this
    omega
  refine ⟨by omega, by omega, ?_⟩
  by_cases e2 : D (j + 1) = 92
  · rw [runAt_on (by omega) e2, r1]; omega
  · rw [runAt_off (fun h => e2 h.2)]

set_option maxRecDepth 100000 in
set_option maxHeartbeats 4000000 in
theorem walk5 (a0 : Option Addr) (l0 c0 : Nat) (D : Nat → Int) (x : Int) (w : World) (h0 : In w a0 l0 D) (hl0 : l0 ≤ maxLen) :
    Calls Try.prog 5 #[.slice a0 l0 c0, .int .i64 x] w fun e w' => e = .returned (.bool true) ∧ Below w.heap.size w w' := by
  have HC := bytes15 a0 l0 c0 x w hl0
  have H0 : Hid (In w a0 l0 D) := h0
  clear h0
  unfold maxLen at hl0
  by_cases g0 : (1048576 : Int) < (l0 : Int)
  · have d0 := decide_eq_true g0
    go_enter Try.func5, Try.ntmps5
    go_wp2_with (go_at_call 15; refine HC.mono ?_)
    rintro e w1 ⟨r, rfl, rfl⟩
    cases r
    · go_wp2; go_ret; exact ⟨rfl, Below.refl _ _⟩
    · go_wp2; go_ret; exact ⟨rfl, Below.refl _ _⟩
  have HK := clone16 a0 l0 c0 D w H0.out (by omega)
  have d0 := decide_eq_false g0
  by_cases g1 : x < 0
  · clear HK
    go_enter Try.func5, Try.ntmps5
    go_wp2_with (go_at_call 15; refine HC.mono ?_)
    rintro e w1 ⟨r, rfl, rfl⟩
    cases r
    · go_wp2; go_ret; exact ⟨rfl, Below.refl _ _⟩
    · go_wp2; go_ret; exact ⟨rfl, Below.refl _ _⟩
  by_cases g2 : (l0 : Int) ≤ x
  · clear HK
    go_enter Try.func5, Try.ntmps5
    go_wp2_with (go_at_call 15; refine HC.mono ?_)
    rintro e w1 ⟨r, rfl, rfl⟩
    cases r
    · go_wp2; go_ret; exact ⟨rfl, Below.refl _ _⟩
    · go_wp2; go_ret; exact ⟨rfl, Below.refl _ _⟩
  obtain ⟨i, rfl⟩ : ∃ i : Nat, x = (i : Int) := ⟨x.toNat, by omega⟩
  go_enter Try.func5, Try.ntmps5
  go_wp2_with (go_at_call 15; refine HC.mono ?_)
  rintro e w1 ⟨r, rfl, rfl⟩
  clear HC
  cases r
  · go_wp2; go_ret; exact ⟨rfl, Below.refl _ _⟩
  go_wp2_with (go_at_call 16; refine HK.mono ?_)
  rintro e w2 ⟨a', c', rfl, hin, hbel⟩
  obtain ⟨b, o, rfl, hb, hc⟩ := hin (by omega)
  have HIN : Hid (∀ j, j < l0 → w2.cell? ⟨b, o + j, none⟩ = some (.int .u8 (D j))) := hc
  have HBEL : Hid (Below w1.heap.size w1 w2) := hbel
  clear hc hin hbel HK
  go_wp2
  go_loopw [5, 6] (fun ev jv wr => ∃ j : Nat, i + 1 ≤ j ∧ j ≤ l0 ∧ ev = .int .i64 (-1) ∧ jv = .int .i64 j ∧ wr = w2 ∧ Hid (∀ q, i < q → q < j → ¬ Ends D i q)) (fun _ jv _ => l0 - (intOf jv).toNat)
  case atStart => exact ⟨i + 1, Nat.le_refl _, by omega, rfl, by go_num, rfl, fun q h1 h2 => by omega⟩
  case round =>
    obtain ⟨j, hj1, hj2, rfl, rfl, rfl, HNO⟩ := hrel
    by_cases hlt : j < l0
    · have hcj : wr.cell? ⟨b, o + j, none⟩ = some (.int .u8 (D j)) := HIN.out j hlt
      cases e34 : (D j == 34)
      · have hno' : Hid (∀ q, i < q → q < j + 1 → ¬ Ends D i q) := fun q h1 h2 => by
          by_cases e : q = j
          · subst e; exact fun h => beq_eq_false_iff_ne.1 e34 h.1
          · exact HNO.out q h1 (by omega)
        go_wp2
        go_roundw
        case rel => exact ⟨j + 1, by omega, by omega, by first | exact trivial | rfl, by first | exact trivial | go_num, by first | exact trivial | rfl, hno'⟩
        case measure => simp [intOf]; omega
      · have H34 : Hid (D j = 34) := beq_iff_eq.1 e34
        obtain ⟨j', hj', hj''⟩ : ∃ j' : Nat, j' + 1 ≤ j ∧ j ≤ j' + 1 := ⟨j - 1, by omega, by omega⟩
        have HR0 : Hid (runAt D i j = 0 + runAt D i (j' + 1)) := by
          have e : j = j' + 1 := by omega
          show runAt D i j = 0 + runAt D i (j' + 1)
          rw [e, Nat.zero_add]
        go_wp2
        go_loopw [7, 8] (fun rv pv wq => ∃ r p : Nat, i ≤ p ∧ p < j ∧ r + p < j ∧ rv = .int .i64 r ∧ pv = .int .i64 p ∧ wq = wr ∧ Hid (runAt D i j = r + runAt D i (p + 1))) (fun _ pv _ => (intOf pv).toNat)
        case atStart => exact ⟨0, j', by omega, by omega, by omega, by first | exact trivial | rfl, by first | exact trivial | go_num, by first | exact trivial | rfl, HR0⟩
        case round =>
          obtain ⟨r, p, hp1, hp2, hrp, rfl, rfl, hww, HR⟩ := hrel
          subst hww
          have hcp : wr.cell? ⟨b, o + p, none⟩ = some (.int .u8 (D p)) := HIN.out p (by omega)
          by_cases hpi : i < p
          · cases e92 : (D p == 92)
            · have HRJ : Hid (runAt D i j = r) := by
                have := HR.out
                rw [runAt_off (fun h => beq_eq_false_iff_ne.1 e92 h.2)] at this
                exact this
              have hpar : r % 2 = 0 ∨ r % 2 = 1 := by omega
              rcases hpar with hpar | hpar
              · have hrem : ((r : Int).tmod 2) = 0 := by show ((r % 2 : Nat) : Int) = 0; rw [hpar]; rfl
                have HZ : Hid (Calls Try.prog 17 #[.slice (some ⟨b, o, none⟩) l0 c', .int .i64 i] wr fun e w' => e = .returned (.int .i64 ((j : Int) + 1)) ∧ Below wr.heap.size wr w') :=
                  zstr17 b o l0 c' i j D (At D i j) wr (by omega) hb HIN.out (by omega) hlt (at_start D i j hj1) (fun q h => h.2.1) H34.out (at_step D i j ⟨H34.out, by rw [HRJ.out]; exact hpar⟩ HNO.out)
                go_wp2_with (go_at_call 17; refine HZ.out.mono ?_)
                rintro e w6 ⟨rfl, hbel6⟩
                have HBL : Hid (Below w1.heap.size w1 w6) := HBEL.out.trans (hbel6.mono HBEL.out.size)
                clear hbel6
                go_wp2
                go_ret
                exact ⟨rfl, HBL.out⟩
              · have hrem : ((r : Int).tmod 2) = 1 := by show ((r % 2 : Nat) : Int) = 1; rw [hpar]; rfl
                have hno' : Hid (∀ q, i < q → q < j + 1 → ¬ Ends D i q) := fun q h1 h2 => by
                  by_cases e : q = j
                  · subst e; intro h; have := h.2; rw [HRJ.out] at this; omega
                  · exact HNO.out q h1 (by omega)
                go_wp2
                go_roundw
                case rel => exact ⟨j + 1, by omega, by omega, by first | exact trivial | rfl, by first | exact trivial | go_num, by first | exact trivial | rfl, hno'⟩
                case measure => simp [intOf]; omega
            · obtain ⟨p', hp', hp''⟩ : ∃ p' : Nat, p' + 1 ≤ p ∧ p ≤ p' + 1 := ⟨p - 1, by omega, by omega⟩
              have HR1 : Hid (runAt D i j = (r + 1) + runAt D i (p' + 1)) := by
                have := HR.out
                rw [runAt_on hpi (beq_iff_eq.1 e92)] at this
                have e : p' + 1 = p := by omega
                show runAt D i j = (r + 1) + runAt D i (p' + 1)
                rw [e]; omega
              go_wp2
              go_roundw
              case rel => exact ⟨r + 1, p', by omega, by omega, by omega, by first | exact trivial | go_num, by first | exact trivial | go_num, by first | exact trivial | rfl, HR1⟩
              case measure => simp [intOf]; omega
          · have HRJ : Hid (runAt D i j = r) := by
              have := HR.out
              rw [runAt_off (fun h => hpi h.1)] at this
              exact this
            have hpar : r % 2 = 0 ∨ r % 2 = 1 := by omega
            rcases hpar with hpar | hpar
            · have hrem : ((r : Int).tmod 2) = 0 := by show ((r % 2 : Nat) : Int) = 0; rw [hpar]; rfl
              have HZ : Hid (Calls Try.prog 17 #[.slice (some ⟨b, o, none⟩) l0 c', .int .i64 i] wr fun e w' => e = .returned (.int .i64 ((j : Int) + 1)) ∧ Below wr.heap.size wr w') :=
                zstr17 b o l0 c' i j D (At D i j) wr (by omega) hb HIN.out (by omega) hlt (at_start D i j hj1) (fun q h => h.2.1) H34.out (at_step D i j ⟨H34.out, by rw [HRJ.out]; exact hpar⟩ HNO.out)
              go_wp2_with (go_at_call 17; refine HZ.out.mono ?_)
              rintro e w6 ⟨rfl, hbel6⟩
              have HBL : Hid (Below w1.heap.size w1 w6) := HBEL.out.trans (hbel6.mono HBEL.out.size)
              clear hbel6
              go_wp2
              go_ret
              exact ⟨rfl, HBL.out⟩
            · have hrem : ((r : Int).tmod 2) = 1 := by show ((r % 2 : Nat) : Int) = 1; rw [hpar]; rfl
              have hno' : Hid (∀ q, i < q → q < j + 1 → ¬ Ends D i q) := fun q h1 h2 => by
                by_cases e : q = j
                · subst e; intro h; have := h.2; rw [HRJ.out] at this; omega
                · exact HNO.out q h1 (by omega)
              go_wp2
              go_roundw
              case rel => exact ⟨j + 1, by omega, by omega, by first | exact trivial | rfl, by first | exact trivial | go_num, by first | exact trivial | rfl, hno'⟩
              case measure => simp [intOf]; omega
    · go_wp2
      go_ret
      exact ⟨rfl, HBEL.out⟩

end Go.Proofs.Qxb6602792a
