/-
  Seat b6602710a: 'Rows.FnLongestIsFirstHighestSaid' PROVED.
-/
import Derived.Test.Qxb6602710aWatch
import Derived.Test.Qxb6602710aBytes
namespace Go.Proofs.Qxb6602710a.fnLongestIsFirstHighest
open Go.ChangeShapes Go.WideShapes Go.ChangeAt Go.RowKit
set_option linter.unusedVariables false

/-- It answers true, and nothing that was there has turned. -/
def RetTrue (w : World) (e : Ending) (w' : World) : Prop := e = .returned (.bool true) ∧ Below w.heap.size w w'

/-! ### The plain law -/
theorem highest (ht : Nat → Int) : ∀ (n j : Nat), j < n → ht j ≤ ht (longIdx ht n)
  | 0, _, h => absurd h (Nat.not_lt_zero _)
  | n + 1, j, h => by
    by_cases hc : ht (longIdx ht n) < ht n
    · rw [longIdx_up hc]
      rcases Nat.lt_succ_iff_lt_or_eq.1 h with h | rfl
      · have := highest ht n j h; omega
      · omega
    · rw [longIdx_stay (by omega)]
      rcases Nat.lt_succ_iff_lt_or_eq.1 h with h | rfl
      · exact highest ht n j h
      · omega
theorem first_highest (ht : Nat → Int) : ∀ (n j : Nat), j < longIdx ht n → ht j < ht (longIdx ht n)
  | 0, j, h => by simp [longIdx] at h
  | n + 1, j, h => by
    by_cases hc : ht (longIdx ht n) < ht n
    · rw [longIdx_up hc] at h ⊢
      have := highest ht n j h; omega
    · rw [longIdx_stay (by omega)] at h ⊢
      exact first_highest ht n j h

/-! ### The walk -/
set_option maxRecDepth 1000000 in
set_option maxHeartbeats 1000000 in
theorem walk_early (a0 : Option Addr) (l0 c0 : Nat) (a1 : Option Addr) (l1 c1 : Nat) (a2 : Option Addr) (l2 c2 : Nat) (w : World) (hl0 : l0 ≤ maxLen) (hl1 : l1 ≤ maxLen) (hl2 : l2 ≤ maxLen)
    (hbad : l0 ≠ l1 ∨ (l0 = l1 ∧ l2 ≠ l1) ∨ 4096 < l1) :
    Calls Try.prog 3 #[.slice a0 l0 c0, .slice a1 l1 c1, .slice a2 l2 c2] w (RetTrue w) := by
  have HK : Hid (Calls Try.prog 10 #[.slice a0 l0 c0, .slice a1 l1 c1, .slice a2 l2 c2] w (RetB w)) := bytes10 a0 l0 c0 a1 l1 c1 a2 l2 c2 w hl0 hl1 hl2
  unfold maxLen at hl0 hl1 hl2
  rcases hbad with hne | ⟨rfl, hne⟩ | hne
  · have hd : ((l0 : Int) != (l1 : Int)) = true := by rw [bne_iff_ne]; omega
    go_enter Try.func3, Try.ntmps3
    go_wp2_with (go_at_call 10; refine HK.out.mono ?_)
    rintro e w' ⟨r, rfl, hB⟩
    have HD : Hid (RetTrue w (.returned (.bool true)) w') := ⟨rfl, hB⟩
    clear hB HK
    cases r
    all_goals
      go_wp2
      all_goals (go_ret; exact HD.out)
  · have hd : ((l2 : Int) != (l0 : Int)) = true := by rw [bne_iff_ne]; omega
    have hd0 : ((l0 : Int) != (l0 : Int)) = false := by simp
    go_enter Try.func3, Try.ntmps3
    go_wp2_with (go_at_call 10; refine HK.out.mono ?_)
    rintro e w' ⟨r, rfl, hB⟩
    have HD : Hid (RetTrue w (.returned (.bool true)) w') := ⟨rfl, hB⟩
    clear hB HK
    cases r
    all_goals
      go_wp2
      all_goals (go_ret; exact HD.out)
  · go_enter Try.func3, Try.ntmps3
    go_wp2_with (go_at_call 10; refine HK.out.mono ?_)
    rintro e w' ⟨r, rfl, hB⟩
    have HD : Hid (RetTrue w (.returned (.bool true)) w') := ⟨rfl, hB⟩
    clear hB HK
    cases r
    all_goals
      go_wp2
      all_goals (go_ret; exact HD.out)

theorem isHashes_below {w w' : World} {a : Option Addr} {n : Nat} {hs : Nat → List Int} (h : IsHashes w a n hs) (hb : Below w.heap.size w w') : IsHashes w' a n hs := by
  refine ⟨h.1, ?_⟩
  rcases h.2 with h0 | ⟨b, o, e, hlt, hc⟩
  · exact .inl h0
  · exact .inr ⟨b, o, e, Nat.lt_of_lt_of_le hlt hb.size, fun i hi q v hv => by rw [hb.cell (p := ⟨b, o + i * 32 + q, none⟩) hlt]; exact hc i hi q v hv⟩
theorem isCells_below {w w' : World} {a : Option Addr} {n : Nat} {V : Nat → Value} (h : IsCells w a n V) (hb : Below w.heap.size w w') : IsCells w' a n V := by
  rcases h with h0 | ⟨b, o, e, hlt, hc⟩
  · exact .inl h0
  · exact .inr ⟨b, o, e, Nat.lt_of_lt_of_le hlt hb.size, fun i hi => by rw [hb.cell (p := ⟨b, o + i, none⟩) hlt]; exact hc i hi⟩

set_option maxRecDepth 1000000 in
set_option maxHeartbeats 2000000 in
theorem walk_main (a0 : Option Addr) (n c0 : Nat) (a1 : Option Addr) (c1 : Nat) (a2 : Option Addr) (c2 : Nat) (hs : Nat → List Int) (ht : Nat → Int) (rv : Nat → Bool) (w : World) (h4 : n ≤ 4096)
    (hK : IsHashes w a0 n hs) (h1 : IsCells w a1 n fun i => .int .i64 (ht i)) (h2 : IsCells w a2 n fun i => .bool (rv i)) :
    Calls Try.prog 3 #[.slice a0 n c0, .slice a1 n c1, .slice a2 n c2] w (RetTrue w) := by
  have HK10 : Hid (Calls Try.prog 10 #[.slice a0 n c0, .slice a1 n c1, .slice a2 n c2] w (RetB w)) := bytes10 a0 n c0 a1 n c1 a2 n c2 w (by unfold maxLen; omega) (by unfold maxLen; omega) (by unfold maxLen; omega)
  have HKH : Hid (IsHashes w a0 n hs) := hK
  have HK1 : Hid (IsCells w a1 n fun i => .int .i64 (ht i)) := h1
  have HK2 : Hid (IsCells w a2 n fun i => .bool (rv i)) := h2
  clear hK h2
  have hd0 : ((n : Int) != (n : Int)) = false := by simp
  rcases h1 with h1 | ⟨b1, o1, rfl, hb1, hc1⟩
  all_goals
    go_enter Try.func3, Try.ntmps3
    go_wp2_with (go_at_call 10; refine HK10.out.mono ?_)
    rintro e w' ⟨r, rfl, hB⟩
    have HB : Hid (Below w.heap.size w w') := hB
    clear hB HK10
    cases r
    · go_wp2
      go_ret
      exact ⟨rfl, HB.out⟩
    · have HK12 : Hid (Calls Try.prog 12 #[.slice _ n c0, .slice _ n c1, .slice _ n c2] w' (Watches w' n hs ht rv)) := watches _ c0 _ c1 _ c2 n hs ht rv w' h4 (isHashes_below HKH.out HB.out) (isCells_below HK1.out HB.out) (isCells_below HK2.out HB.out)
      go_wp2_with (go_at_call 12; refine HK12.out.mono ?_)
      rintro e w2 ⟨R, rfl, hR1, hR2, hrow, hB2⟩
      have HK11 : Hid (Calls Try.prog 11 #[.slice (some ⟨R, 0, none⟩) n n] w2 (RetI w2 (longIdx ht n))) := longest11 R n n hs ht rv w2 (by omega) hR2 (fun i hi => (HKH.out.1 i hi).1) hrow
      have HB2 : Hid (Below w.heap.size w w2) := HB.out.trans (hB2.mono HB.out.size)
      clear hrow hB2 HK12 hR1 hR2
      go_wp2_with (go_at_call 11; refine HK11.out.mono ?_)
      rintro e w3 ⟨rfl, hB3⟩
      have HB3 : Hid (Below w.heap.size w w3) := HB2.out.trans (hB3.mono HB2.out.size)
      clear hB3 HK11
      have hil := longIdx_le ht n
      first
      | (have hz : ((n : Int) == 0) = true := by rw [beq_iff_eq]; omega
         have hz2 : ((longIdx ht n : Int) == 0) = true := by rw [beq_iff_eq]; omega
         go_wp2
         go_ret
         exact ⟨rfl, HB3.out⟩)
      | (by_cases h0 : n < 1
         · have hz : ((n : Int) == 0) = true := by rw [beq_iff_eq]; omega
           have hz2 : ((longIdx ht n : Int) == 0) = true := by rw [beq_iff_eq]; omega
           go_wp2
           go_ret
           exact ⟨rfl, HB3.out⟩
         · have hz : ((n : Int) == 0) = false := by rw [beq_eq_false_iff_ne]; omega
           have hlt := longIdx_lt ht n (by omega)
           have dz1 : decide ((longIdx ht n : Int) < 0) = false := decide_eq_false (by omega)
           have dz2 : decide ((n : Int) ≤ (longIdx ht n : Int)) = false := decide_eq_false (by omega)
           have HCJ : Hid (∀ j, j < n → w3.cell? ⟨b1, o1 + j, none⟩ = some (.int .i64 (ht j))) := fun j hj => by
             rw [HB3.out.cell (p := ⟨b1, o1 + j, none⟩) hb1]; exact hc1 j hj
           have hcg := HCJ.out _ hlt
           have HBN : Hid (∀ m, RetTrue w (.returned (.bool true)) (w3.drewN m)) := fun m => ⟨rfl, HB3.out.os, HB3.out.tape, HB3.out.output, HB3.out.size, HB3.out.block⟩
           have hi0 : (0 : Int) ≤ (longIdx ht n : Int) := Int.natCast_nonneg _
           have hi1 : (longIdx ht n : Int) < (n : Int) := by omega
           go_wp2
           go_loopw [9] (fun i wr => ∃ j m : Nat, j ≤ n ∧ i = .int .i64 j ∧ wr = w3.drewN m) (fun i _ => n - (intOf i).toNat)
           case atStart => exact ⟨0, 0, Nat.zero_le _, rfl, rfl⟩
           case round =>
             obtain ⟨j, m, hj, rfl, rfl⟩ := hrel
             by_cases hlj : j < n
             · have hcj := HCJ.out j hlj
               have hle := highest ht n j hlj
               have d1 : decide (ht (longIdx ht n) < ht j) = false := decide_eq_false (by omega)
               have hj0 : (0 : Int) ≤ (j : Int) := Int.natCast_nonneg _
               have hjn : (j : Int) < (n : Int) := by omega
               go_wp2
               refine wp_region_quiet_lit (by kernel_rfl) (by kernel_rfl) ?_
               repeat (first | go_big_quiet_skip | (go_big_quiet_want; go_big_quiet_op; go_big_quiet_on))
               refine wpQuiet_nil ?_
               intro _ hw'
               obtain ⟨nq, hw''⟩ := hw'
               subst hw''
               by_cases hjl : j < longIdx ht n
               · have hf := first_highest ht n j hjl
                 have d2 : decide ((j : Int) < (longIdx ht n : Int)) = true := decide_eq_true (by omega)
                 have d3 : (ht j == ht (longIdx ht n)) = false := by rw [beq_eq_false_iff_ne]; omega
                 go_wp2
                 refine wp_region_quiet_lit (by kernel_rfl) (by kernel_rfl) ?_
                 repeat (first | go_big_quiet_skip | (go_big_quiet_want; go_big_quiet_op; go_big_quiet_on))
                 refine wpQuiet_nil ?_
                 intro _ hw'
                 obtain ⟨nq2, hw''⟩ := hw'
                 subst hw''
                 go_wp2
                 go_roundw
                 case rel => exact ⟨j + 1, _, by omega, by go_num, rfl⟩
                 case measure => simp [intOf]; omega
               · have d2 : decide ((j : Int) < (longIdx ht n : Int)) = false := decide_eq_false (by omega)
                 go_wp2
                 refine wp_region_quiet_lit (by kernel_rfl) (by kernel_rfl) ?_
                 repeat (first | go_big_quiet_skip | (go_big_quiet_want; go_big_quiet_op; go_big_quiet_on))
                 refine wpQuiet_nil ?_
                 intro _ hw'
                 obtain ⟨nq2, hw''⟩ := hw'
                 subst hw''
                 go_wp2
                 go_roundw
                 case rel => exact ⟨j + 1, _, by omega, by go_num, rfl⟩
                 case measure => simp [intOf]; omega
             · go_wp2
               go_ret
               exact HBN.out _)

/-- The walk, whatever the input. -/
theorem walk (a0 : Option Addr) (l0 c0 : Nat) (a1 : Option Addr) (l1 c1 : Nat) (a2 : Option Addr) (l2 c2 : Nat) (hs : Nat → List Int) (ht : Nat → Int) (rv : Nat → Bool) (w : World) (hl0 : l0 ≤ maxLen) (hl1 : l1 ≤ maxLen) (hl2 : l2 ≤ maxLen)
    (hK : IsHashes w a0 l0 hs) (h1 : IsCells w a1 l1 fun i => .int .i64 (ht i)) (h2 : IsCells w a2 l2 fun i => .bool (rv i)) :
    Calls Try.prog 3 #[.slice a0 l0 c0, .slice a1 l1 c1, .slice a2 l2 c2] w (RetTrue w) := by
  by_cases hg : l0 = l1 ∧ l2 = l1 ∧ l1 ≤ 4096
  · obtain ⟨rfl, rfl, h4⟩ := hg
    exact walk_main a0 l2 c0 a1 c1 a2 c2 hs ht rv w h4 hK h1 h2
  · exact walk_early a0 l0 c0 a1 l1 c1 a2 l2 c2 w hl0 hl1 hl2 (by omega)

set_option maxRecDepth 100000 in
theorem lifted (os : Os) (started : os.Started) (H : Type) (enc : TypeId × Value → H) :
    ReturnsInHanded {} Try.checked os 3 .any (Rows.fnLongestIsFirstHighestSpec.pre6 enc Try.prog Try.f3 Rows.fnLongestIsFirstHighestRow.domain false) (Rows.fnLongestIsFirstHighestSpec.post enc Try.prog Try.f3 false true false false) := by
  refine returnsInHanded_of_change (C := Try.checked) Try.own started (by kernel_rfl) Try.func3
    (ChangeSpec.witness6 (enc := enc) (C := Try.checked) false ⟨#[], #[.slice none 0 0, .slice none 0 0, .slice none 0 0], []⟩ 8 (by kernel_rfl) (by kernel_rfl) (by kernel_rfl) (by kernel_rfl)) ?_
  intro W base args ds gs before hval0 hW hcnd _
  have hval : ∀ (j : Nat) t v, Try.f3.params[j]? = some t → args[j]? = some v → Value.okWide Try.prog W .any base t v := hval0
  have hW' := hW
  obtain ⟨p, q, hA0, hV, rfl, hfz, hnd⟩ := hW
  have hA : DataW.TrodAll enc Try.prog W 0 (fun _ => true) true Try.f3.params.toList args.toList ds p := hA0
  rw [Try.params3] at hA hval
  obtain ⟨v0, vs0, d0, ds0, p0, q0, hargs, rfl, rfl, h0, r0⟩ := trodAll_cons hA
  obtain ⟨v1, vs1, d1, ds1, p1, q1, rfl, rfl, rfl, h1, r1⟩ := trodAll_cons r0
  obtain ⟨v2, vs2, d2, ds2, p2, q2, rfl, rfl, rfl, h2, r2⟩ := trodAll_cons r1
  obtain ⟨rfl, rfl, rfl⟩ := trodAll_nil r2
  obtain rfl : args = #[v0, v1, v2] := by cases args; simp_all
  obtain ⟨rfl, rfl⟩ := trodVars_none hV
  obtain ⟨a0, len0, cap0, rfl⟩ := okWide_slice Try.underlying22 (hval 0 22 v0 rfl rfl)
  have k0 := h0
  have lt0 : ∀ x ∈ p0, x.block < W.heap.size := by obtain ⟨m, hm⟩ := k0; exact DataW.trod_lt m _ _ _ hm
  obtain ⟨hl0, hs0, hK0⟩ : len0 ≤ maxLen ∧ ∃ hs, IsHashes W a0 len0 hs := by
    obtain ⟨fuel, hf⟩ := h0
    exact open_hashes hf
  obtain ⟨a1, len1, cap1, rfl⟩ := okWide_slice Try.underlying23 (hval 1 23 v1 rfl rfl)
  have k1 := h1
  have lt1 : ∀ x ∈ p1, x.block < W.heap.size := by obtain ⟨m, hm⟩ := k1; exact DataW.trod_lt m _ _ _ hm
  obtain ⟨hl1, nd1, hnb1, hK1⟩ : len1 ≤ maxLen ∧ ∃ nd : Nat → Int, (∀ i, i < len1 → -9223372036854775808 ≤ nd i ∧ nd i ≤ 9223372036854775807) ∧ IsCells W a1 len1 (fun i => .int .i64 (nd i)) := by
    obtain ⟨fuel, hf⟩ := h1
    exact open_nums hf
  obtain ⟨a2, len2, cap2, rfl⟩ := okWide_slice Try.underlying24 (hval 2 24 v2 rfl rfl)
  have k2 := h2
  have lt2 : ∀ x ∈ p2, x.block < W.heap.size := by obtain ⟨m, hm⟩ := k2; exact DataW.trod_lt m _ _ _ hm
  obtain ⟨hl2, rv2, hK2⟩ : len2 ≤ maxLen ∧ ∃ rv : Nat → Bool, IsCells W a2 len2 (fun i => .bool (rv i)) := by
    obtain ⟨fuel, hf⟩ := h2
    exact open_bools hf
  clear hA0 hval0
  refine (walk a0 len0 cap0 a1 len1 cap1 a2 len2 cap2 hs0 nd1 rv2 W hl0 hl1 hl2 hK0 hK1 hK2).mono fun e W' ⟨he, bel⟩ => ?_
  subst he
  exact ⟨_, rfl, _, _, _, [], _, [], hW', trodAll_mk1 (shut_bool Try.underlying4 _), (trodAll_cons_mk (Below.trod Try.laidOut (by kernel_rfl) (of_decide_eq_true (by kernel_rfl)) k0 bel lt0) (trodAll_cons_mk (Below.trod Try.laidOut (by kernel_rfl) (of_decide_eq_true (by kernel_rfl)) k1 bel lt1) (trodAll_cons_mk (Below.trod Try.laidOut (by kernel_rfl) (of_decide_eq_true (by kernel_rfl)) k2 bel lt2) trodAll_mk0))), rfl, bel.frame _, fun h => by cases h⟩

theorem over : Rows.fnLongestIsFirstHighestRow.holds Try.pinned (OpenSpec.ofChange Rows.fnLongestIsFirstHighestSpec) :=
  OpenClaim.holds_of_wide 3 Try.f3 rfl rfl rfl rfl rfl rfl rfl ⟨rfl, rfl, rfl, rfl, rfl⟩ rfl rfl rfl rfl rfl (by kernel_rfl) Try.func3 (by kernel_rfl)
    (of_decide_eq_true (by kernel_rfl)) (by unfold Func.isWrapper; first | (rw [if_pos (by decide +kernel)]; kernel_rfl) | (rw [if_neg (by decide +kernel)]; exact ⟨rfl, rfl⟩))
    (fun os started H enc _ => lifted os started H enc)

/-- ████ THE STATEMENT ████ -/
theorem proved : Rows.FnLongestIsFirstHighestSaid := over
#print axioms proved
end Go.Proofs.Qxb6602710a.fnLongestIsFirstHighest
