/-
  Seat b6602710a: 'FnForgottenAddExact' (8): the walk.
-/
import Derived.Test.Qxb6602710aAdd
import Derived.Test.Qxb6602710aBytes
namespace Go.Proofs.Qxb6602710a
open Go.ChangeShapes Go.WideShapes Go.ChangeAt Go.RowKit

/-- It answers true, and nothing that was there has turned. -/
def RetT (w : World) (e : Ending) (w' : World) : Prop := e = .returned (.bool true) ∧ Below w.heap.size w w'

set_option maxRecDepth 1000000 in
set_option maxHeartbeats 1000000 in
/-- The lengths part: it answers true at once. -/
theorem walk8_lens (a0 : Option Addr) (l0 c0 : Nat) (a1 : Option Addr) (l1 c1 : Nat) (A : Nat → Option Addr) (L C : Nat → Nat) (wd nd : Int) (H : List Int) (w : World)
    (hH : Hash H) (hl0 : l0 ≤ maxLen) (hl1 : l1 ≤ maxLen) (hL : ∀ i, i < l1 → L i ≤ maxLen)
    (hc : IsCells w a1 l1 fun i => .slice (A i) (L i) (C i)) (hne : l1 ≠ l0 ∨ 4096 < l0) :
    Calls Try.prog 8 #[.slice a0 l0 c0, .slice a1 l1 c1, .int .i64 wd, .int .i64 nd, .agg (hcs H).toArray] w (RetT w) := by
  have hb : IsCells (w.alloc (Obj.cells (hcs H).toArray 29)) a1 l1 fun i => .slice (A i) (L i) (C i) := by
    rcases hc with hc | ⟨b, o, e, hb, hc⟩
    · exact .inl hc
    · exact .inr ⟨b, o, e, by simp; omega, fun i hi => by rw [World.cell?_alloc_lt _ _ _ hb]; exact hc i hi⟩
  have HC : Hid ((w.alloc (Obj.cells (hcs H).toArray 29)).rangeAt w.heap.size 0 (hcs H)) := range_box w H 29
  have HK : Hid (Calls Try.prog 21 #[.slice a0 l0 c0, .slice a1 l1 c1, .int .i64 wd, .int .i64 nd, .agg (hcs H).toArray] (w.alloc (Obj.cells (hcs H).toArray 29)) (RetB (w.alloc (Obj.cells (hcs H).toArray 29)))) :=
    bytes21 a0 l0 c0 a1 l1 c1 A L C wd nd _ _ hl0 hl1 hL hb
  clear hb hc
  unfold maxLen at hl0 hl1 hL
  go_enter Try.func8, Try.ntmps8
  go_wp2_with (first | (refine wl_load rfl 29 ht29 (.tmp 9) rfl _ _ rfl H hH.1 HC.out ?_) | (go_at_call 21; refine HK.out.mono ?_))
  rintro e w' ⟨r, rfl, hB⟩
  have HD : Hid (RetT w (.returned (.bool true)) w') := ⟨rfl, ((Below.refl _ _).alloc (Nat.le_refl _) _).trans (hB.mono (by simp))⟩
  clear hB HK HC
  cases r
  · go_wp2
    go_ret
    exact HD.out
  · rcases hne with hne | hne
    · have hd : ((l1 : Int) != (l0 : Int)) = true := by rw [bne_iff_ne]; omega
      go_wp2
      all_goals (go_ret; exact HD.out)
    · go_wp2
      all_goals (go_ret; exact HD.out)

set_option maxRecDepth 1000000 in
set_option maxHeartbeats 1000000 in
/-- The numbers are out of their bounds: true. -/
theorem walk8_bad (a0 : Option Addr) (l0 c0 : Nat) (a1 : Option Addr) (c1 : Nat) (A : Nat → Option Addr) (L C : Nat → Nat) (wd nd : Int) (H : List Int) (w : World)
    (hH : Hash H) (hl0 : l0 ≤ maxLen) (hL : ∀ i, i < l0 → L i ≤ maxLen)
    (hc : IsCells w a1 l0 fun i => .slice (A i) (L i) (C i)) (h4 : l0 ≤ 4096) (hbad : wd < 1 ∨ (1 ≤ wd ∧ 16384 < wd) ∨ (1 ≤ wd ∧ wd ≤ 16384 ∧ nd < 0) ∨ (1 ≤ wd ∧ wd ≤ 16384 ∧ 0 ≤ nd ∧ 64 * wd ≤ nd)) :
    Calls Try.prog 8 #[.slice a0 l0 c0, .slice a1 l0 c1, .int .i64 wd, .int .i64 nd, .agg (hcs H).toArray] w (RetT w) := by
  have hb : IsCells (w.alloc (Obj.cells (hcs H).toArray 29)) a1 l0 fun i => .slice (A i) (L i) (C i) := by
    rcases hc with hc | ⟨b, o, e, hb, hc⟩
    · exact .inl hc
    · exact .inr ⟨b, o, e, by simp; omega, fun i hi => by rw [World.cell?_alloc_lt _ _ _ hb]; exact hc i hi⟩
  have HC : Hid ((w.alloc (Obj.cells (hcs H).toArray 29)).rangeAt w.heap.size 0 (hcs H)) := range_box w H 29
  have HK : Hid (Calls Try.prog 21 #[.slice a0 l0 c0, .slice a1 l0 c1, .int .i64 wd, .int .i64 nd, .agg (hcs H).toArray] (w.alloc (Obj.cells (hcs H).toArray 29)) (RetB (w.alloc (Obj.cells (hcs H).toArray 29)))) :=
    bytes21 a0 l0 c0 a1 l0 c1 A L C wd nd _ _ hl0 hl0 hL hb
  clear hb
  unfold maxLen at hl0 hL
  rcases hc with hc | ⟨b1, o1, rfl, hb1, hc⟩
  all_goals
    go_enter Try.func8, Try.ntmps8
    go_wp2_with (first | (refine wl_load rfl 29 ht29 (.tmp 9) rfl _ _ rfl H hH.1 HC.out ?_) | (go_at_call 21; refine HK.out.mono ?_))
    rintro e w' ⟨r, rfl, hB⟩
    have HD : Hid (RetT w (.returned (.bool true)) w') := ⟨rfl, ((Below.refl _ _).alloc (Nat.le_refl _) _).trans (hB.mono (by simp))⟩
    have HB : Hid (Below (w.heap.size + 1) (w.alloc (Obj.cells (hcs H).toArray 29)) w') := by simpa [Hid] using hB
    clear hB HK HC
    cases r
    · go_wp2
      go_ret
      exact HD.out
    · go_wp2
      go_loop [11, 12] (fun n i => ∃ (k : Nat) (z : Nat), k ≤ l0 ∧ i = .int .i64 k ∧ n = .int .i64 z ∧ z ≤ 1048576) (fun _ i => l0 - (intOf i).toNat)
      case atStart => exact ⟨0, 32 * l0, Nat.zero_le _, rfl, by go_num, by omega⟩
      case round =>
        obtain ⟨k, z, hk, rfl, rfl, hz⟩ := hrel
        by_cases hlt : k < l0
        · have hLk := hL k hlt
          first
          | (exfalso; omega)
          | (have hck : w'.cell? ⟨b1, o1 + k, none⟩ = some (.slice (A k) (L k) (C k)) := by
               rw [HB.out.cell (p := ⟨b1, o1 + k, none⟩) (by show b1 < _; omega), World.cell?_alloc_lt _ _ _ hb1]; exact hc k hlt
             by_cases hz2 : (131072 : Int) < (L k : Int)
             · have hd := decide_eq_true hz2
               go_wp2
               go_ret
               exact HD.out
             · have hd := decide_eq_false hz2
               by_cases hz3 : (1048576 : Int) < (z : Int) + 8 * (L k : Int)
               · have hd3 := decide_eq_true hz3
                 go_wp2
                 go_ret
                 exact HD.out
               · have hd3 := decide_eq_false hz3
                 go_wp2
                 go_round
                 case rel => exact ⟨k + 1, z + 8 * L k, by omega, by go_num, by go_num, by omega⟩
                 case measure => simp [intOf]; omega)
        · rcases hbad with h1 | ⟨h1, h2⟩ | ⟨h1, h2, h3⟩ | ⟨h1, h2, h3, h4⟩
          · have d1 := decide_eq_true h1
            go_wp2
            go_ret
            exact HD.out
          · have d1 : decide (wd < 1) = false := decide_eq_false (by omega)
            have d2 := decide_eq_true h2
            go_wp2
            go_ret
            exact HD.out
          · have d1 : decide (wd < 1) = false := decide_eq_false (by omega)
            have d2 : decide (16384 < wd) = false := decide_eq_false (by omega)
            have d3 := decide_eq_true h3
            go_wp2
            go_ret
            exact HD.out
          · have d1 : decide (wd < 1) = false := decide_eq_false (by omega)
            have d2 : decide (16384 < wd) = false := decide_eq_false (by omega)
            have d3 : decide (nd < 0) = false := decide_eq_false (by omega)
            have d4 := decide_eq_true h4
            go_wp2
            go_ret
            exact HD.out

end Go.Proofs.Qxb6602710a
