/-
  Seat b6602710a: 'FnForgottenAddScriptIsSetOfPairs' (9): the ways that end early.
-/
import Derived.Test.Qxb6602710aPlain2
import Derived.Test.Qxb6602710aEx1
namespace Go.Proofs.Qxb6602710a
open Go.ChangeShapes Go.WideShapes Go.ChangeAt Go.RowKit

set_option maxRecDepth 1000000 in
set_option maxHeartbeats 1000000 in
/-- The bounds are not met: true at once. -/
theorem walk9_early (wd : Int) (a1 : Option Addr) (l1 c1 : Nat) (a2 : Option Addr) (l2 c2 : Nat) (w : World) (hl1 : l1 ≤ maxLen) (hl2 : l2 ≤ maxLen)
    (hbad : l2 ≠ l1 ∨ 4096 < l1 ∨ (l2 = l1 ∧ l1 ≤ 4096 ∧ wd < 1) ∨ (l2 = l1 ∧ l1 ≤ 4096 ∧ 1024 < wd) ∨ (l2 = l1 ∧ l1 ≤ 4096 ∧ 1 ≤ wd ∧ wd ≤ 1024 ∧ 65536 < (l1 : Int) * wd)) :
    Calls Try.prog 9 #[.int .i64 wd, .slice a1 l1 c1, .slice a2 l2 c2] w (RetT w) := by
  have HK : Hid (Calls Try.prog 23 #[.int .i64 wd, .slice a1 l1 c1, .slice a2 l2 c2] w (RetB w)) := bytes23 wd a1 l1 c1 a2 l2 c2 w hl2 hl1
  unfold maxLen at hl1 hl2
  rcases hbad with hne | hne | ⟨rfl, h4, hne⟩ | ⟨rfl, h4, hne⟩ | ⟨rfl, h4, h1, h2, hne⟩
  · have hd : ((l2 : Int) != (l1 : Int)) = true := by rw [bne_iff_ne]; omega
    go_enter Try.func9, Try.ntmps9
    go_wp2_with (go_at_call 23; refine HK.out.mono ?_)
    rintro e w' ⟨r, rfl, hB⟩
    have HD : Hid (RetT w (.returned (.bool true)) w') := ⟨rfl, hB⟩
    clear hB HK
    cases r
    all_goals
      go_wp2
      all_goals (go_ret; exact HD.out)
  · go_enter Try.func9, Try.ntmps9
    go_wp2_with (go_at_call 23; refine HK.out.mono ?_)
    rintro e w' ⟨r, rfl, hB⟩
    have HD : Hid (RetT w (.returned (.bool true)) w') := ⟨rfl, hB⟩
    clear hB HK
    cases r
    all_goals
      go_wp2
      all_goals (go_ret; exact HD.out)
  · have d1 := decide_eq_true hne
    go_enter Try.func9, Try.ntmps9
    go_wp2_with (go_at_call 23; refine HK.out.mono ?_)
    rintro e w' ⟨r, rfl, hB⟩
    have HD : Hid (RetT w (.returned (.bool true)) w') := ⟨rfl, hB⟩
    clear hB HK
    cases r
    all_goals
      go_wp2
      all_goals (go_ret; exact HD.out)
  · have d1 : decide (wd < 1) = false := decide_eq_false (by omega)
    have d2 := decide_eq_true hne
    go_enter Try.func9, Try.ntmps9
    go_wp2_with (go_at_call 23; refine HK.out.mono ?_)
    rintro e w' ⟨r, rfl, hB⟩
    have HD : Hid (RetT w (.returned (.bool true)) w') := ⟨rfl, hB⟩
    clear hB HK
    cases r
    all_goals
      go_wp2
      all_goals (go_ret; exact HD.out)
  · have d1 : decide (wd < 1) = false := decide_eq_false (by omega)
    have d2 : decide (1024 < wd) = false := decide_eq_false (by omega)
    have d3 := decide_eq_true hne
    have hm1 : (l2 : Int) * wd ≤ 4194304 := by
      have : (l2 : Int) * wd ≤ 4096 * 1024 := Int.mul_le_mul (by omega) (by omega) (by omega) (by omega)
      omega
    go_enter Try.func9, Try.ntmps9
    go_wp2_with (go_at_call 23; refine HK.out.mono ?_)
    rintro e w' ⟨r, rfl, hB⟩
    have HD : Hid (RetT w (.returned (.bool true)) w') := ⟨rfl, hB⟩
    clear hB HK
    cases r
    all_goals
      go_wp2
      all_goals (go_ret; exact HD.out)

end Go.Proofs.Qxb6602710a
