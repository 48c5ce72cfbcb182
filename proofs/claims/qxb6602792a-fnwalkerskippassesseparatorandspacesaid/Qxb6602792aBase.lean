/-
  Seat b6602792a: the words that all walks of this seat use; the contracts of 'zzBytes_..' (15, 18, 19), '(*walker).str' (23), 'ZZWalkerStr' (17).
-/
import Derived.Test.Qxb6602792aRows
import Derived.WalkKit
import Derived.WalkLawsBesides
import Derived.ProofKit
import Derived.OpenShut
import Derived.ChangeOld
import Derived.Below
import Derived.Deep.OwnRows
import Derived.Deep.QuietTactic
import Derived.BigQuiet
namespace Go.Proofs.Qxb6602792a
open Go.ChangeShapes Go.WideShapes Go.ChangeAt Go.RowKit

/-- It answers some bool; the world is as it was. -/
def RetB (w : World) (e : Ending) (w' : World) : Prop := ∃ r, e = .returned (.bool r) ∧ w' = w

set_option maxRecDepth 100000 in
theorem bytes15 (a0 : Option Addr) (l0 c0 : Nat) (i : Int) (w : World) (hl0 : l0 ≤ maxLen) : Calls Try.prog 15 #[.slice a0 l0 c0, .int .i64 i] w (RetB w) := by
  unfold maxLen at hl0
  go_enter Try.func15, Try.ntmps15
  go_wp2
  all_goals (go_ret; exact ⟨_, rfl, rfl⟩)

set_option maxRecDepth 100000 in
theorem bytes19 (a0 : Option Addr) (l0 c0 : Nat) (i c : Int) (w : World) (hl0 : l0 ≤ maxLen) : Calls Try.prog 19 #[.slice a0 l0 c0, .int .i64 i, .int .u8 c] w (RetB w) := by
  unfold maxLen at hl0
  go_enter Try.func19, Try.ntmps19
  go_wp2
  all_goals (go_ret; exact ⟨_, rfl, rfl⟩)

set_option maxRecDepth 100000 in
theorem bytes18 (a0 : Option Addr) (l0 c0 : Nat) (a1 : Option Addr) (l1 c1 : Nat) (a2 : Option Addr) (l2 c2 : Nat) (w : World) (hl0 : l0 ≤ maxLen) (hl1 : l1 ≤ maxLen) (hl2 : l2 ≤ maxLen) :
    Calls Try.prog 18 #[.slice a0 l0 c0, .slice a1 l1 c1, .slice a2 l2 c2] w (RetB w) := by
  unfold maxLen at hl0 hl1 hl2
  go_enter Try.func18, Try.ntmps18
  go_wp2
  all_goals (go_ret; exact ⟨_, rfl, rfl⟩)

/-- What 'str' leaves in the walker's block p: the new offset; nothing below p has turned. -/
def Moved (w : World) (p : Nat) (x : Int) (e : Ending) (w' : World) : Prop :=
  e = .returned (.tuple #[]) ∧ w'.cell? ⟨p, 1, none⟩ = some (.int .i64 x) ∧ Below p w w'

theorem keep0 {w : World} {p : Nat} {v x : Value} (h : w.cell? ⟨p, 0, none⟩ = some v) : (w.setCell ⟨p, 1, none⟩ x).cell? ⟨p, 0, none⟩ = some v := by
  rw [World.cell?_setCell_other _ _ _ _ (by simp)]; exact h
theorem keep1 {w : World} {p : Nat} {v x : Value} (h : w.cell? ⟨p, 1, none⟩ = some v) : (w.setCell ⟨p, 1, none⟩ x).cell? ⟨p, 1, none⟩ = some x :=
  World.cell?_setCell_same _ _ _ h

theorem below_set {w wr : World} {p o : Nat} (h : Below p w wr) (v : Value) : Below p w (wr.setCell ⟨p, o, none⟩ v) := h.setCell (p := ⟨p, o, none⟩) (Nat.le_refl _) v
theorem below_drewN {B : Nat} {a w : World} (h : Below B a w) (n : Nat) : Below B a (w.drewN n) := ⟨h.os, h.tape, h.output, h.size, h.block⟩

set_option maxRecDepth 100000 in
set_option maxHeartbeats 1000000 in
/-- 'str', told by the offsets G at which its loop stands: they lead on to E, the closing quote. -/
theorem str23 (p b o len cap i E : Nat) (D : Nat → Int) (G : Nat → Prop) (w : World) (hlen : len ≤ 4611686018427387904) (hp0 : w.cell? ⟨p, 0, none⟩ = some (.slice (some ⟨b, o, none⟩) len cap)) (hp1 : w.cell? ⟨p, 1, none⟩ = some (.int .i64 i)) (hf : w.frozen? ⟨p, 1, none⟩ = false)
    (hb : b < p) (hc : ∀ j, j < len → w.cell? ⟨b, o + j, none⟩ = some (.int .u8 (D j))) (hi : i < len)
    (hE : E < len) (hG0 : G (i + 1)) (hGE : ∀ j, G j → j ≤ E) (hq : D E = 34) (hst : ∀ j, G j → j < E → D j ≠ 34 ∧ (D j = 92 → G (j + 2)) ∧ (D j ≠ 92 → G (j + 1))) :
    Calls Try.prog 23 #[.pointer (some ⟨p, 0, none⟩)] w (Moved w p (E + 1)) := by
  have HC : Hid (∀ j, j < len → w.cell? ⟨b, o + j, none⟩ = some (.int .u8 (D j))) := hc
  have HGE : Hid (∀ j, G j → j ≤ E) := hGE
  have HST : Hid (∀ j, G j → j < E → D j ≠ 34 ∧ (D j = 92 → G (j + 2)) ∧ (D j ≠ 92 → G (j + 1))) := hst
  have HQ : Hid (D E = 34) := hq
  have HG0 : Hid (G (i + 1)) := hG0
  have HP0 : Hid (w.cell? ⟨p, 0, none⟩ = some (.slice (some ⟨b, o, none⟩) len cap)) := hp0
  have HP1 : Hid (w.cell? ⟨p, 1, none⟩ = some (.int .i64 i)) := hp1
  clear hc hGE hst hq hG0
  go_enter Try.func23, Try.ntmps23
  go_wp2
  clear hp0 hp1
  go_loopw [] (fun wr => ∃ j : Nat, Hid (G j) ∧ wr.cell? ⟨p, 0, none⟩ = some (.slice (some ⟨b, o, none⟩) len cap) ∧ wr.cell? ⟨p, 1, none⟩ = some (.int .i64 j) ∧ wr.frozen? ⟨p, 1, none⟩ = false ∧ Below p w wr) (fun wr => E - (intOf ((wr.cell? ⟨p, 1, none⟩).getD undef)).toNat)
  case atStart => exact ⟨i + 1, HG0, keep0 HP0.out, by rw [keep1 HP1.out]; rfl, by simpa using hf, below_set (Below.refl _ _) _⟩
  case round =>
    obtain ⟨j, HGj, h0, h1, hf', hbel⟩ := hrel
    have HBEL : Hid (Below p w wr) := hbel
    have hjE := HGE.out j HGj.out
    have H0 : Hid (wr.cell? ⟨p, 0, none⟩ = some (.slice (some ⟨b, o, none⟩) len cap)) := h0
    have H1 : Hid (wr.cell? ⟨p, 1, none⟩ = some (.int .i64 j)) := h1
    clear hbel
    have hj0 : (0 : Int) ≤ (j : Int) := Int.natCast_nonneg _
    have hjl : (j : Int) < (len : Int) := by omega
    have hcj : wr.cell? ⟨b, o + j, none⟩ = some (.int .u8 (D j)) := by rw [HBEL.out.cell (p := ⟨b, o + j, none⟩) hb]; exact HC.out j (by omega)
    by_cases hlt : j < E
    · have hs := HST.out j HGj.out hlt
      have d34 : (D j != 34) = true := by rw [bne_iff_ne]; exact hs.1
      cases d92 : (D j == 92)
      · have HN : Hid (G (j + 1)) := hs.2.2 (beq_eq_false_iff_ne.1 d92)
        clear hs
        go_wp2
        refine wp_region_quiet_lit (by kernel_rfl) (by kernel_rfl) ?_
        repeat (first | go_big_quiet_skip | (go_big_quiet_want; go_big_quiet_op; go_big_quiet_on))
        refine wpQuiet_nil ?_
        intro _ hw'
        obtain ⟨nq, hw''⟩ := hw'
        subst hw''
        go_wp2
        refine wp_region_quiet_lit (by kernel_rfl) (by kernel_rfl) ?_
        repeat (first | go_big_quiet_skip | (go_big_quiet_want; go_big_quiet_op; go_big_quiet_on))
        refine wpQuiet_nil ?_
        intro _ hw'
        obtain ⟨nq2, hw''⟩ := hw'
        subst hw''
        go_wp2
        go_roundw
        case rel => exact ⟨j + 1, HN, keep0 (w := wr.drewN _) H0.out, by rw [keep1 (w := wr.drewN _) H1.out]; rfl, by simpa using hf', below_set (below_drewN HBEL.out _) _⟩
        case measure => rw [keep1 (w := wr.drewN _) H1.out, H1.out]; simp [intOf]; omega
      · have HN : Hid (G (j + 2)) := hs.2.1 (beq_iff_eq.1 d92)
        clear hs
        go_wp2
        refine wp_region_quiet_lit (by kernel_rfl) (by kernel_rfl) ?_
        repeat (first | go_big_quiet_skip | (go_big_quiet_want; go_big_quiet_op; go_big_quiet_on))
        refine wpQuiet_nil ?_
        intro _ hw'
        obtain ⟨nq, hw''⟩ := hw'
        subst hw''
        go_wp2
        refine wp_region_quiet_lit (by kernel_rfl) (by kernel_rfl) ?_
        repeat (first | go_big_quiet_skip | (go_big_quiet_want; go_big_quiet_op; go_big_quiet_on))
        refine wpQuiet_nil ?_
        intro _ hw'
        obtain ⟨nq2, hw''⟩ := hw'
        subst hw''
        go_wp2
        go_roundw
        case rel => exact ⟨j + 2, HN, keep0 (keep0 (w := wr.drewN _) H0.out), by rw [keep1 (keep1 (w := wr.drewN _) H1.out)]; rfl, by simpa using hf', below_set (below_set (below_drewN HBEL.out _) _) _⟩
        case measure => rw [keep1 (keep1 (w := wr.drewN _) H1.out), H1.out]; simp [intOf]; omega
    · have he : j = E := by omega
      have d34 : (D j != 34) = false := by rw [he, HQ.out]; rfl
      have HJ : Hid (j = E) := he
      clear he
      go_wp2
      refine wp_region_quiet_lit (by kernel_rfl) (by kernel_rfl) ?_
      repeat (first | go_big_quiet_skip | (go_big_quiet_want; go_big_quiet_op; go_big_quiet_on))
      refine wpQuiet_nil ?_
      intro _ hw'
      obtain ⟨nq, hw''⟩ := hw'
      subst hw''
      go_wp2
      go_end0
      exact ⟨rfl, by rw [keep1 (w := wr.drewN _) H1.out, ← HJ.out], below_set (below_drewN HBEL.out _) _⟩

set_option maxRecDepth 100000 in
set_option maxHeartbeats 400000 in
/-- 'ZZWalkerStr', likewise. -/
theorem zstr17 (b o len cap i E : Nat) (D : Nat → Int) (G : Nat → Prop) (w : World) (hlen : len ≤ 4611686018427387904) (hb : b < w.heap.size) (hc : ∀ j, j < len → w.cell? ⟨b, o + j, none⟩ = some (.int .u8 (D j))) (hi : i < len)
    (hE : E < len) (hG0 : G (i + 1)) (hGE : ∀ j, G j → j ≤ E) (hq : D E = 34) (hst : ∀ j, G j → j < E → D j ≠ 34 ∧ (D j = 92 → G (j + 2)) ∧ (D j ≠ 92 → G (j + 1))) :
    Calls Try.prog 17 #[.slice (some ⟨b, o, none⟩) len cap, .int .i64 i] w fun e w' => e = .returned (.int .i64 ((E : Int) + 1)) ∧ Below w.heap.size w w' := by
  have HK : Hid (Calls Try.prog 23 #[.pointer (some ⟨w.heap.size, 0, none⟩)] (w.alloc (.cells #[.slice (some ⟨b, o, none⟩) len cap, .int .i64 i] 46)) (Moved (w.alloc (.cells #[.slice (some ⟨b, o, none⟩) len cap, .int .i64 i] 46)) w.heap.size (E + 1))) :=
    str23 w.heap.size b o len cap i E D G _ hlen (by rw [World.cell?_alloc_at _ _ _ _ rfl]; rfl) (by rw [World.cell?_alloc_at _ _ _ _ rfl]; rfl) (World.frozen?_alloc_at _ _ _ _ rfl) hb
      (fun j hj => by rw [World.cell?_alloc_lt _ _ _ hb]; exact hc j hj) hi hE hG0 hGE hq hst
  clear hc hG0 hGE hst
  go_enter Try.func17, Try.ntmps17
  go_wp2_with (go_at_call 23; refine HK.out.mono ?_)
  rintro e w1 ⟨rfl, hcell, hbel⟩
  have HB : Hid (Below w.heap.size w w1) := ((Below.refl _ _).alloc (Nat.le_refl _) _).trans hbel
  clear hbel HK
  go_wp2
  go_ret
  exact ⟨rfl, HB.out⟩

end Go.Proofs.Qxb6602792a
