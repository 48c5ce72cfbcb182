/-
  Seat b6602792a: the contracts of '(*walker).skip' (24) and 'ZZWalkerSkip' (20).
-/
import Derived.Test.Qxb6602792aSkip
namespace Go.Proofs.Qxb6602792a
open Go.ChangeShapes Go.WideShapes Go.ChangeAt Go.RowKit

set_option maxRecDepth 100000 in
set_option maxHeartbeats 1000000 in
/-- 'skip' at or behind the end: nothing. -/
theorem skip24_end (p : Nat) (a : Option Addr) (len cap i : Nat) (c : Int) (w : World) (hp0 : w.cell? ⟨p, 0, none⟩ = some (.slice a len cap)) (hp1 : w.cell? ⟨p, 1, none⟩ = some (.int .i64 i)) (hi : len ≤ i) :
    Calls Try.prog 24 #[.pointer (some ⟨p, 0, none⟩), .int .u8 c] w (Moved w p i) := by
  have HP1 : Hid (w.cell? ⟨p, 1, none⟩ = some (.int .i64 i)) := hp1
  have hjl : (len : Int) ≤ (i : Int) := by omega
  have hlt : ¬ i < len := by omega
  go_enter Try.func24, Try.ntmps24
  go_wp2
  refine wp_region_quiet_lit (by kernel_rfl) (by kernel_rfl) ?_
  repeat (first | go_big_quiet_skip | (go_big_quiet_want; go_big_quiet_op; go_big_quiet_on))
  refine wpQuiet_nil ?_
  intro _ hw'
  obtain ⟨nq, hw2⟩ := hw'
  subst hw2
  go_wp2
  go_end0
  exact ⟨rfl, HP1.out, below_drewN (Below.refl _ _) _⟩

set_option maxRecDepth 100000 in
set_option maxHeartbeats 1000000 in
/-- 'skip' at another byte: nothing. -/
theorem skip24_other (p b o len cap i : Nat) (c x : Int) (w : World) (hp0 : w.cell? ⟨p, 0, none⟩ = some (.slice (some ⟨b, o, none⟩) len cap)) (hp1 : w.cell? ⟨p, 1, none⟩ = some (.int .i64 i)) (hi : i < len)
    (hc : w.cell? ⟨b, o + i, none⟩ = some (.int .u8 x)) (hx : (x == c) = false) :
    Calls Try.prog 24 #[.pointer (some ⟨p, 0, none⟩), .int .u8 c] w (Moved w p i) := by
  have HP1 : Hid (w.cell? ⟨p, 1, none⟩ = some (.int .i64 i)) := hp1
  have hjl : (i : Int) < (len : Int) := by omega
  have hj0 : (0 : Int) ≤ (i : Int) := Int.natCast_nonneg _
  go_enter Try.func24, Try.ntmps24
  go_wp2
  refine wp_region_quiet_lit (by kernel_rfl) (by kernel_rfl) ?_
  repeat (first | go_big_quiet_skip | (go_big_quiet_want; go_big_quiet_op; go_big_quiet_on))
  refine wpQuiet_nil ?_
  intro _ hw'
  obtain ⟨nq, hw2⟩ := hw'
  subst hw2
  go_wp2
  go_end0
  exact ⟨rfl, HP1.out, below_drewN (Below.refl _ _) _⟩

set_option maxRecDepth 100000 in
set_option maxHeartbeats 1000000 in
/-- 'skip' at the byte: past it and the white space behind it. -/
theorem skip24_there (p b o len cap i : Nat) (c : Int) (D : Nat → Int) (w : World) (hlen : len ≤ 4611686018427387904) (hp0 : w.cell? ⟨p, 0, none⟩ = some (.slice (some ⟨b, o, none⟩) len cap)) (hp1 : w.cell? ⟨p, 1, none⟩ = some (.int .i64 i)) (hf : w.frozen? ⟨p, 1, none⟩ = false)
    (hb : b < p) (hc : ∀ j, j < len → w.cell? ⟨b, o + j, none⟩ = some (.int .u8 (D j))) (hi : i < len) (hx : (D i == c) = true) :
    Calls Try.prog 24 #[.pointer (some ⟨p, 0, none⟩), .int .u8 c] w fun e w' => ∃ E : Nat, Lands D len (i + 1) E ∧ Moved w p E e w' := by
  have HP1 : Hid (w.cell? ⟨p, 1, none⟩ = some (.int .i64 i)) := hp1
  have HP0 : Hid (w.cell? ⟨p, 0, none⟩ = some (.slice (some ⟨b, o, none⟩) len cap)) := hp0
  have HK : Hid (∀ nq, Calls Try.prog 26 #[.pointer (some ⟨p, 0, none⟩)] ((w.drewN nq).setCell ⟨p, 1, none⟩ (.int .i64 ((i : Int) + 1))) fun e w' => ∃ E : Nat, Lands D len (i + 1) E ∧ Moved ((w.drewN nq).setCell ⟨p, 1, none⟩ (.int .i64 ((i : Int) + 1))) p E e w') := fun nq =>
    space26 p b o len cap (i + 1) D _ hlen (keep0 (w := w.drewN nq) hp0) (keep1 (w := w.drewN nq) hp1) (by simpa using hf) hb
      (fun j hj => by rw [World.cell?_setCell_other _ _ _ _ (by simp <;> omega)]; exact hc j hj) hi
  have hcj := hc i hi
  have hjl : (i : Int) < (len : Int) := by omega
  have hj0 : (0 : Int) ≤ (i : Int) := Int.natCast_nonneg _
  clear hc
  go_enter Try.func24, Try.ntmps24
  go_wp2
  refine wp_region_quiet_lit (by kernel_rfl) (by kernel_rfl) ?_
  repeat (first | go_big_quiet_skip | (go_big_quiet_want; go_big_quiet_op; go_big_quiet_on))
  refine wpQuiet_nil ?_
  intro _ hw'
  obtain ⟨nq, hw2⟩ := hw'
  subst hw2
  go_wp2_with (go_at_call 26; refine (HK.out nq).mono ?_)
  rintro e w1 ⟨E, hE, rfl, hcell, hbel⟩
  have HB : Hid (Below p w w1) := (below_set (below_drewN (Below.refl _ _) nq) _).trans hbel
  have HCE : Hid (w1.cell? ⟨p, 1, none⟩ = some (.int .i64 E)) := hcell
  have HE : Hid (Lands D len (i + 1) E) := hE
  clear hE hcell hbel HK
  go_wp2
  go_end0
  exact ⟨E, HE.out, rfl, HCE.out, HB.out⟩

/-- What 'ZZWalkerSkip' answers. -/
def Skips (D : Nat → Int) (len i : Nat) (c : Int) (E : Nat) : Prop :=
  (len ≤ i → E = i) ∧ (i < len → (D i == c) = false → E = i) ∧ (i < len → (D i == c) = true → Lands D len (i + 1) E)

set_option maxRecDepth 100000 in
set_option maxHeartbeats 1000000 in
theorem zskip20 (a : Option Addr) (len cap i : Nat) (c : Int) (D : Nat → Int) (w : World) (h : In w a len D) (hlen : len ≤ 4611686018427387904) :
    Calls Try.prog 20 #[.slice a len cap, .int .i64 i, .int .u8 c] w fun e w' => ∃ E : Nat, e = .returned (.int .i64 E) ∧ Skips D len i c E ∧ Below w.heap.size w w' := by
  have HK : Hid (Calls Try.prog 24 #[.pointer (some ⟨w.heap.size, 0, none⟩), .int .u8 c] (w.alloc (.cells #[.slice a len cap, .int .i64 i] 46)) fun e w' => ∃ E : Nat, Skips D len i c E ∧ Moved (w.alloc (.cells #[.slice a len cap, .int .i64 i] 46)) w.heap.size E e w') := by
    have hp0 : (w.alloc (.cells #[.slice a len cap, .int .i64 i] 46)).cell? ⟨w.heap.size, 0, none⟩ = some (.slice a len cap) := by rw [World.cell?_alloc_at _ _ _ _ rfl]; rfl
    have hp1 : (w.alloc (.cells #[.slice a len cap, .int .i64 i] 46)).cell? ⟨w.heap.size, 1, none⟩ = some (.int .i64 i) := by rw [World.cell?_alloc_at _ _ _ _ rfl]; rfl
    by_cases hi : len ≤ i
    · exact (skip24_end w.heap.size a len cap i c _ hp0 hp1 hi).mono fun e w' hm => ⟨i, ⟨fun _ => rfl, fun h => by omega, fun h => by omega⟩, hm⟩
    · obtain ⟨b, o, rfl, hb, hc⟩ := h (by omega)
      have hc' : ∀ j, j < len → (w.alloc (.cells #[.slice (some ⟨b, o, none⟩) len cap, .int .i64 i] 46)).cell? ⟨b, o + j, none⟩ = some (.int .u8 (D j)) := fun j hj => by
        rw [World.cell?_alloc_lt _ _ _ hb]; exact hc j hj
      cases hx : (D i == c)
      · exact (skip24_other w.heap.size b o len cap i c (D i) _ hp0 hp1 (by omega) (hc' i (by omega)) hx).mono fun e w' hm => ⟨i, ⟨fun _ => rfl, fun _ _ => rfl, fun _ h => by rw [hx] at h; cases h⟩, hm⟩
      · exact (skip24_there w.heap.size b o len cap i c D _ hlen hp0 hp1 (World.frozen?_alloc_at _ _ _ _ rfl) hb hc' (by omega) hx).mono fun e w' ⟨E, hE, hm⟩ => ⟨E, ⟨fun h => by omega, fun _ h => (by rw [hx] at h; cases h), fun _ _ => hE⟩, hm⟩
  clear h
  go_enter Try.func20, Try.ntmps20
  go_wp2_with (go_at_call 24; refine HK.out.mono ?_)
  rintro e w1 ⟨E, hE, rfl, hcell, hbel⟩
  have HB : Hid (Below w.heap.size w w1) := ((Below.refl _ _).alloc (Nat.le_refl _) _).trans hbel
  have HE : Hid (Skips D len i c E) := hE
  clear hbel HK hE
  go_wp2
  go_ret
  exact ⟨E, rfl, HE.out, HB.out⟩

end Go.Proofs.Qxb6602792a
