/-
  Seat b6602792a: the contracts of 'isJSONSpace' (21), '(*walker).space' (26), '(*walker).skip' (24), 'ZZWalkerSkip' (20).
-/
import Derived.Test.Qxb6602792aClone
namespace Go.Proofs.Qxb6602792a
open Go.ChangeShapes Go.WideShapes Go.ChangeAt Go.RowKit

def isSp (x : Int) : Bool := x == 32 || x == 9 || x == 13 || x == 10

set_option maxRecDepth 100000 in
theorem space21 (x : Int) (w : World) : Calls Try.prog 21 #[.int .u8 x] w fun e w' => e = .returned (.bool (isSp x)) ∧ w' = w := by
  obtain ⟨b, hb⟩ : ∃ b, b = isSp x := ⟨_, rfl⟩
  rw [← hb]
  have HB : Hid (b = isSp x) := hb
  clear hb
  cases e1 : (x == 32)
  · cases e2 : (x == 9)
    · cases e3 : (x == 13)
      · cases e4 : (x == 10)
        · have hb : b = false := by rw [HB.out]; unfold isSp; rw [e1, e2, e3, e4]; rfl
          subst hb; clear HB
          go_enter Try.func21, Try.ntmps21
          go_wp2
          go_ret
          exact ⟨rfl, rfl⟩
        · have hb : b = true := by rw [HB.out]; unfold isSp; rw [e1, e2, e3, e4]; rfl
          subst hb; clear HB
          go_enter Try.func21, Try.ntmps21
          go_wp2
          go_ret
          exact ⟨rfl, rfl⟩
      · have hb : b = true := by rw [HB.out]; unfold isSp; rw [e1, e2, e3]; rfl
        subst hb; clear HB
        go_enter Try.func21, Try.ntmps21
        go_wp2
        go_ret
        exact ⟨rfl, rfl⟩
    · have hb : b = true := by rw [HB.out]; unfold isSp; rw [e1, e2]; rfl
      subst hb; clear HB
      go_enter Try.func21, Try.ntmps21
      go_wp2
      go_ret
      exact ⟨rfl, rfl⟩
  · have hb : b = true := by rw [HB.out]; unfold isSp; rw [e1]; rfl
    subst hb; clear HB
    go_enter Try.func21, Try.ntmps21
    go_wp2
    go_ret
    exact ⟨rfl, rfl⟩

/-- Where the white space from i on ends. -/
def Lands (D : Nat → Int) (len i E : Nat) : Prop := i ≤ E ∧ E ≤ len ∧ (∀ q, i ≤ q → q < E → isSp (D q) = true) ∧ (E < len → isSp (D E) = false)

set_option maxRecDepth 100000 in
set_option maxHeartbeats 2000000 in
theorem space26 (p b o len cap i : Nat) (D : Nat → Int) (w : World) (hlen : len ≤ 4611686018427387904) (hp0 : w.cell? ⟨p, 0, none⟩ = some (.slice (some ⟨b, o, none⟩) len cap)) (hp1 : w.cell? ⟨p, 1, none⟩ = some (.int .i64 i)) (hf : w.frozen? ⟨p, 1, none⟩ = false)
    (hb : b < p) (hc : ∀ j, j < len → w.cell? ⟨b, o + j, none⟩ = some (.int .u8 (D j))) (hi : i ≤ len) :
    Calls Try.prog 26 #[.pointer (some ⟨p, 0, none⟩)] w fun e w' => ∃ E : Nat, Lands D len i E ∧ Moved w p E e w' := by
  have HC : Hid (∀ j, j < len → w.cell? ⟨b, o + j, none⟩ = some (.int .u8 (D j))) := hc
  have HP0 : Hid (w.cell? ⟨p, 0, none⟩ = some (.slice (some ⟨b, o, none⟩) len cap)) := hp0
  have HP1 : Hid (w.cell? ⟨p, 1, none⟩ = some (.int .i64 i)) := hp1
  clear hc hp0 hp1
  go_enter Try.func26, Try.ntmps26
  go_wp2
  go_loopw [] (fun wr => ∃ j : Nat, i ≤ j ∧ j ≤ len ∧ Hid (∀ q, i ≤ q → q < j → isSp (D q) = true) ∧ wr.cell? ⟨p, 0, none⟩ = some (.slice (some ⟨b, o, none⟩) len cap) ∧ wr.cell? ⟨p, 1, none⟩ = some (.int .i64 j) ∧ wr.frozen? ⟨p, 1, none⟩ = false ∧ Below p w wr) (fun wr => len - (intOf ((wr.cell? ⟨p, 1, none⟩).getD undef)).toNat)
  case atStart => exact ⟨i, Nat.le_refl _, hi, fun q h1 h2 => by omega, HP0.out, HP1.out, hf, Below.refl _ _⟩
  case round =>
    obtain ⟨j, hj1, hj2, HS, h0, h1, hf', hbel⟩ := hrel
    have HBEL : Hid (Below p w wr) := hbel
    have H0 : Hid (wr.cell? ⟨p, 0, none⟩ = some (.slice (some ⟨b, o, none⟩) len cap)) := h0
    have H1 : Hid (wr.cell? ⟨p, 1, none⟩ = some (.int .i64 j)) := h1
    clear hbel
    have hj0 : (0 : Int) ≤ (j : Int) := Int.natCast_nonneg _
    by_cases hlt : j < len
    · have hjl : (j : Int) < (len : Int) := by omega
      have hcj : wr.cell? ⟨b, o + j, none⟩ = some (.int .u8 (D j)) := by rw [HBEL.out.cell (p := ⟨b, o + j, none⟩) hb]; exact HC.out j hlt
      have HSN : Hid (isSp (D j) = true → ∀ q, i ≤ q → q < j + 1 → isSp (D q) = true) := fun h q h1 h2 => by
        by_cases e : q = j
        · subst e; exact h
        · exact HS.out q h1 (by omega)
      cases e1 : (D j == 32)
      · cases e2 : (D j == 9)
        · cases e3 : (D j == 13)
          · cases e4 : (D j == 10)
            · have HN : Hid (isSp (D j) = false) := by show (D j == 32 || D j == 9 || D j == 13 || D j == 10) = false; rw [e1, e2, e3, e4]; rfl
              go_wp2
              refine wp_region_quiet_lit (by kernel_rfl) (by kernel_rfl) ?_
              repeat (first | go_big_quiet_skip | (go_big_quiet_want; go_big_quiet_op; go_big_quiet_on))
              refine wpQuiet_nil ?_
              intro _ hw'
              obtain ⟨nq, hw2⟩ := hw'
              subst hw2
              go_wp2
              go_end0
              exact ⟨j, ⟨hj1, hj2, HS.out, fun _ => HN.out⟩, rfl, H1.out, below_drewN HBEL.out _⟩
            · have HS1 : Hid (∀ q, i ≤ q → q < j + 1 → isSp (D q) = true) := HSN.out (by unfold isSp; rw [e1, e2, e3, e4]; rfl)
              go_wp2
              refine wp_region_quiet_lit (by kernel_rfl) (by kernel_rfl) ?_
              repeat (first | go_big_quiet_skip | (go_big_quiet_want; go_big_quiet_op; go_big_quiet_on))
              refine wpQuiet_nil ?_
              intro _ hw'
              obtain ⟨nq, hw2⟩ := hw'
              subst hw2
              go_wp2
              go_roundw
              case rel => exact ⟨j + 1, by omega, by omega, HS1, keep0 (w := wr.drewN _) H0.out, by rw [keep1 (w := wr.drewN _) H1.out]; rfl, by simpa using hf', below_set (below_drewN HBEL.out _) _⟩
              case measure => rw [keep1 (w := wr.drewN _) H1.out, H1.out]; simp [intOf]; omega
          · have HS1 : Hid (∀ q, i ≤ q → q < j + 1 → isSp (D q) = true) := HSN.out (by unfold isSp; rw [e1, e2, e3]; rfl)
            go_wp2
            refine wp_region_quiet_lit (by kernel_rfl) (by kernel_rfl) ?_
            repeat (first | go_big_quiet_skip | (go_big_quiet_want; go_big_quiet_op; go_big_quiet_on))
            refine wpQuiet_nil ?_
            intro _ hw'
            obtain ⟨nq, hw2⟩ := hw'
            subst hw2
            go_wp2
            go_roundw
            case rel => exact ⟨j + 1, by omega, by omega, HS1, keep0 (w := wr.drewN _) H0.out, by rw [keep1 (w := wr.drewN _) H1.out]; rfl, by simpa using hf', below_set (below_drewN HBEL.out _) _⟩
            case measure => rw [keep1 (w := wr.drewN _) H1.out, H1.out]; simp [intOf]; omega
        · have HS1 : Hid (∀ q, i ≤ q → q < j + 1 → isSp (D q) = true) := HSN.out (by unfold isSp; rw [e1, e2]; rfl)
          go_wp2
          refine wp_region_quiet_lit (by kernel_rfl) (by kernel_rfl) ?_
          repeat (first | go_big_quiet_skip | (go_big_quiet_want; go_big_quiet_op; go_big_quiet_on))
          refine wpQuiet_nil ?_
          intro _ hw'
          obtain ⟨nq, hw2⟩ := hw'
          subst hw2
          go_wp2
          go_roundw
          case rel => exact ⟨j + 1, by omega, by omega, HS1, keep0 (w := wr.drewN _) H0.out, by rw [keep1 (w := wr.drewN _) H1.out]; rfl, by simpa using hf', below_set (below_drewN HBEL.out _) _⟩
          case measure => rw [keep1 (w := wr.drewN _) H1.out, H1.out]; simp [intOf]; omega
      · have HS1 : Hid (∀ q, i ≤ q → q < j + 1 → isSp (D q) = true) := HSN.out (by unfold isSp; rw [e1]; rfl)
        go_wp2
        refine wp_region_quiet_lit (by kernel_rfl) (by kernel_rfl) ?_
        repeat (first | go_big_quiet_skip | (go_big_quiet_want; go_big_quiet_op; go_big_quiet_on))
        refine wpQuiet_nil ?_
        intro _ hw'
        obtain ⟨nq, hw2⟩ := hw'
        subst hw2
        go_wp2
        go_roundw
        case rel => exact ⟨j + 1, by omega, by omega, HS1, keep0 (w := wr.drewN _) H0.out, by rw [keep1 (w := wr.drewN _) H1.out]; rfl, by simpa using hf', below_set (below_drewN HBEL.out _) _⟩
        case measure => rw [keep1 (w := wr.drewN _) H1.out, H1.out]; simp [intOf]; omega
    · have hjl : (len : Int) ≤ (j : Int) := by omega
      go_wp2
      refine wp_region_quiet_lit (by kernel_rfl) (by kernel_rfl) ?_
      repeat (first | go_big_quiet_skip | (go_big_quiet_want; go_big_quiet_op; go_big_quiet_on))
      refine wpQuiet_nil ?_
      intro _ hw'
      obtain ⟨nq, hw2⟩ := hw'
      subst hw2
      go_wp2
      go_end0
      exact ⟨j, ⟨hj1, hj2, HS.out, fun h => absurd h hlt⟩, rfl, H1.out, below_drewN HBEL.out _⟩

end Go.Proofs.Qxb6602792a
