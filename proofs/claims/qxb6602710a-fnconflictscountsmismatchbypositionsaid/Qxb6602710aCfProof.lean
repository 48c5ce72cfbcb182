/-
  Seat b6602710a: 'Rows.FnConflictsCountsMismatchByPositionSaid' PROVED.
-/
import Derived.Test.Qxb6602710aConf
import Derived.Test.Qxb6602710aBytes
namespace Go.Proofs.Qxb6602710a.fnConflictsCountsMismatchByPosition
open Go.ChangeShapes Go.WideShapes Go.ChangeAt Go.RowKit
set_option linter.unusedVariables false

/-- It answers true, and nothing that was there has turned. -/
def RetTrue (w : World) (e : Ending) (w' : World) : Prop := e = .returned (.bool true) ∧ Below w.heap.size w w'

/-! ### The plain law -/
/-- Row i sits at position p with p's hash. -/
def hit (ls hs : Nat → List Int) (ht : Nat → Int) (p i : Nat) : Nat := if ht i = (p : Int) + 1 ∧ hs i = ls p then 1 else 0
def agIn (ls hs : Nat → List Int) (ht : Nat → Int) (p k : Nat) : Nat := sumTo (hit ls hs ht p) k
def agTo (ls hs : Nat → List Int) (ht : Nat → Int) (n p : Nat) : Nat := sumTo (fun q => agIn ls hs ht q n) p

theorem sumTo_add (f g : Nat → Nat) : ∀ n, sumTo (fun i => f i + g i) n = sumTo f n + sumTo g n
  | 0 => rfl
  | n + 1 => by
    show sumTo (fun i => f i + g i) n + (f n + g n) = (sumTo f n + f n) + (sumTo g n + g n)
    rw [sumTo_add f g n]
    omega
theorem sumTo_swap (e : Nat → Nat → Nat) (n : Nat) : ∀ m, sumTo (fun p => sumTo (e p) n) m = sumTo (fun i => sumTo (fun p => e p i) m) n
  | 0 => (sumTo_zero fun _ _ => rfl).symm
  | m + 1 => by
    show sumTo (fun p => sumTo (e p) n) m + sumTo (e m) n = _
    rw [sumTo_swap e n m, ← sumTo_add]
    rfl
theorem sumTo_one {f : Nat → Nat} {m q : Nat} (hq : q < m) (h : ∀ p, p < m → p ≠ q → f p = 0) : sumTo f m = f q := by
  have := sumTo_raise (f := fun _ => 0) (g := f) (q := q) (d := f q) hq h (by simp)
  rw [this, sumTo_zero (fun _ _ => rfl), Nat.zero_add]
theorem law {ls hs : Nat → List Int} {ht : Nat → Int} {n m : Nat} (hh : ∀ i, i < n → ht i ≤ m) : confTo ls hs ht n + agTo ls hs ht n m = posTo ht n := by
  unfold agTo agIn
  rw [sumTo_swap]
  unfold confTo posTo
  rw [← sumTo_add]
  refine sumTo_congr fun i hi => ?_
  have hi' := hh i hi
  by_cases hp : 0 < ht i
  · have hq : (ht i).toNat - 1 < m := by omega
    have e := sumTo_one (f := fun p => hit ls hs ht p i) hq (fun p _ hne => by
      show (if ht i = (p : Int) + 1 ∧ hs i = ls p then 1 else 0) = 0
      rw [if_neg (fun hc => hne (by omega))])
    show (if 0 < ht i ∧ ¬ ls ((ht i).toNat - 1) = hs i then 1 else 0) + sumTo (fun p => hit ls hs ht p i) m = if 0 < ht i then 1 else 0
    rw [e, if_pos hp]
    show _ + (if ht i = (((ht i).toNat - 1 : Nat) : Int) + 1 ∧ hs i = ls ((ht i).toNat - 1) then 1 else 0) = 1
    by_cases he : ls ((ht i).toNat - 1) = hs i
    · rw [if_neg (fun hc => hc.2 he), if_pos ⟨by omega, he.symm⟩]
    · rw [if_pos ⟨hp, he⟩, if_neg (fun hc => he hc.2.symm)]
  · show (if 0 < ht i ∧ ¬ ls ((ht i).toNat - 1) = hs i then 1 else 0) + sumTo (fun p => hit ls hs ht p i) m = if 0 < ht i then 1 else 0
    rw [if_neg hp, if_neg (fun hc => hp hc.1), sumTo_zero (fun p _ => by
      show (if ht i = (p : Int) + 1 ∧ hs i = ls p then 1 else 0) = 0
      rw [if_neg (fun hc => hp (by omega))])]

theorem agIn_le (ls hs : Nat → List Int) (ht : Nat → Int) (p k : Nat) : agIn ls hs ht p k ≤ k := by
  have := sumTo_le (f := hit ls hs ht p) (c := 1) (n := k) (fun i _ => by unfold hit; split <;> omega)
  unfold agIn
  omega
theorem agTo_le {ls hs : Nat → List Int} {ht : Nat → Int} {n p : Nat} (hn : n ≤ 4096) (hp : p ≤ 4096) : agTo ls hs ht n p ≤ 16777216 := by
  have h1 : agTo ls hs ht n p ≤ p * n := sumTo_le fun q _ => agIn_le ls hs ht q n
  have h2 : p * n ≤ 4096 * 4096 := Nat.mul_le_mul hp hn
  omega
theorem agIn_up {ls hs : Nat → List Int} {ht : Nat → Int} {p k : Nat} (h : ht k = (p : Int) + 1) (he : hs k = ls p) : agIn ls hs ht p (k + 1) = agIn ls hs ht p k + 1 := by
  show agIn ls hs ht p k + (if ht k = (p : Int) + 1 ∧ hs k = ls p then 1 else 0) = _
  rw [if_pos ⟨h, he⟩]
theorem agIn_stay {ls hs : Nat → List Int} {ht : Nat → Int} {p k : Nat} (h : ¬ (ht k = (p : Int) + 1 ∧ hs k = ls p)) : agIn ls hs ht p (k + 1) = agIn ls hs ht p k := by
  show agIn ls hs ht p k + (if ht k = (p : Int) + 1 ∧ hs k = ls p then 1 else 0) = _
  rw [if_neg h]
  rfl

theorem isHashes_below {w w' : World} {a : Option Addr} {n : Nat} {hs : Nat → List Int} (h : IsHashes w a n hs) (hb : Below w.heap.size w w') : IsHashes w' a n hs := by
  refine ⟨h.1, ?_⟩
  rcases h.2 with h0 | ⟨b, o, e, hlt, hc⟩
  · exact .inl h0
  · exact .inr ⟨b, o, e, Nat.lt_of_lt_of_le hlt hb.size, fun i hi q v hv => by rw [hb.cell (p := ⟨b, o + i * 32 + q, none⟩) hlt]; exact hc i hi q v hv⟩
theorem isCells_below {w w' : World} {a : Option Addr} {n : Nat} {V : Nat → Value} (h : IsCells w a n V) (hb : Below w.heap.size w w') : IsCells w' a n V := by
  rcases h with h0 | ⟨b, o, e, hlt, hc⟩
  · exact .inl h0
  · exact .inr ⟨b, o, e, Nat.lt_of_lt_of_le hlt hb.size, fun i hi => by rw [hb.cell (p := ⟨b, o + i, none⟩) hlt]; exact hc i hi⟩

/-! ### The walk -/
set_option maxRecDepth 1000000 in
set_option maxHeartbeats 1000000 in
theorem walk_early (a0 : Option Addr) (l0 c0 : Nat) (a1 : Option Addr) (l1 c1 : Nat) (a2 : Option Addr) (l2 c2 : Nat) (a3 : Option Addr) (l3 c3 : Nat) (w : World) (hl0 : l0 ≤ maxLen) (hl1 : l1 ≤ maxLen) (hl2 : l2 ≤ maxLen) (hl3 : l3 ≤ maxLen)
    (hbad : l1 ≠ l2 ∨ (l1 = l2 ∧ l3 ≠ l2) ∨ 4096 < l2 ∨ 4096 < l0) :
    Calls Try.prog 5 #[.slice a0 l0 c0, .slice a1 l1 c1, .slice a2 l2 c2, .slice a3 l3 c3] w (RetTrue w) := by
  have HK : Hid (Calls Try.prog 15 #[.slice a0 l0 c0, .slice a1 l1 c1, .slice a2 l2 c2, .slice a3 l3 c3] w (RetB w)) := bytes15 a0 l0 c0 a1 l1 c1 a2 l2 c2 a3 l3 c3 w hl0 hl1 hl2 hl3
  unfold maxLen at hl0 hl1 hl2 hl3
  rcases hbad with hne | ⟨rfl, hne⟩ | hne | hne
  · have hd : ((l1 : Int) != (l2 : Int)) = true := by rw [bne_iff_ne]; omega
    go_enter Try.func5, Try.ntmps5
    go_wp2_with (go_at_call 15; refine HK.out.mono ?_)
    rintro e w' ⟨r, rfl, hB⟩
    have HD : Hid (RetTrue w (.returned (.bool true)) w') := ⟨rfl, hB⟩
    clear hB HK
    cases r
    all_goals
      go_wp2
      all_goals (go_ret; exact HD.out)
  · have hd : ((l3 : Int) != (l1 : Int)) = true := by rw [bne_iff_ne]; omega
    have hd0 : ((l1 : Int) != (l1 : Int)) = false := by simp
    go_enter Try.func5, Try.ntmps5
    go_wp2_with (go_at_call 15; refine HK.out.mono ?_)
    rintro e w' ⟨r, rfl, hB⟩
    have HD : Hid (RetTrue w (.returned (.bool true)) w') := ⟨rfl, hB⟩
    clear hB HK
    cases r
    all_goals
      go_wp2
      all_goals (go_ret; exact HD.out)
  · have hne' : 4096 < (l2 : Int) := by omega
    go_enter Try.func5, Try.ntmps5
    go_wp2_with (go_at_call 15; refine HK.out.mono ?_)
    rintro e w' ⟨r, rfl, hB⟩
    have HD : Hid (RetTrue w (.returned (.bool true)) w') := ⟨rfl, hB⟩
    clear hB HK
    cases r
    all_goals
      go_wp2
      all_goals (go_ret; exact HD.out)
  · have hne' : 4096 < (l0 : Int) := by omega
    go_enter Try.func5, Try.ntmps5
    go_wp2_with (go_at_call 15; refine HK.out.mono ?_)
    rintro e w' ⟨r, rfl, hB⟩
    have HD : Hid (RetTrue w (.returned (.bool true)) w') := ⟨rfl, hB⟩
    clear hB HK
    cases r
    all_goals
      go_wp2
      all_goals (go_ret; exact HD.out)

set_option maxRecDepth 1000000 in
set_option maxHeartbeats 4000000 in
theorem walk_main (a0 : Option Addr) (m c0 : Nat) (a1 : Option Addr) (n c1 : Nat) (a2 : Option Addr) (c2 : Nat) (a3 : Option Addr) (c3 : Nat) (ls hs : Nat → List Int) (ht : Nat → Int) (rv : Nat → Bool) (w : World) (h4 : n ≤ 4096) (hm4 : m ≤ 4096)
    (hnb : ∀ i, i < n → -9223372036854775808 ≤ ht i ∧ ht i ≤ 9223372036854775807)
    (hL : IsHashes w a0 m ls) (hK : IsHashes w a1 n hs) (h1 : IsCells w a2 n fun i => .int .i64 (ht i)) (h2 : IsCells w a3 n fun i => .bool (rv i)) :
    Calls Try.prog 5 #[.slice a0 m c0, .slice a1 n c1, .slice a2 n c2, .slice a3 n c3] w (RetTrue w) := by
  have HK15 : Hid (Calls Try.prog 15 #[.slice a0 m c0, .slice a1 n c1, .slice a2 n c2, .slice a3 n c3] w (RetB w)) := bytes15 a0 m c0 a1 n c1 a2 n c2 a3 n c3 w (by unfold maxLen; omega) (by unfold maxLen; omega) (by unfold maxLen; omega) (by unfold maxLen; omega)
  have HKL : Hid (IsHashes w a0 m ls) := hL
  have HKH : Hid (IsHashes w a1 n hs) := hK
  have HK1 : Hid (IsCells w a2 n fun i => .int .i64 (ht i)) := h1
  have HK2 : Hid (IsCells w a3 n fun i => .bool (rv i)) := h2
  have HNB : Hid (∀ i, i < n → -9223372036854775808 ≤ ht i ∧ ht i ≤ 9223372036854775807) := hnb
  have hd0 : ((n : Int) != (n : Int)) = false := by simp
  have hcL := hL.2
  have hcK := hK.2
  clear hL hK h2 hnb
  obtain ⟨hX⟩ : Nonempty (n < 1 ∨ ∃ b1 o1 b2 o2, a1 = some ⟨b1, o1, none⟩ ∧ a2 = some ⟨b2, o2, none⟩ ∧ b1 < w.heap.size ∧ b2 < w.heap.size ∧ (∀ i, i < n → w.rangeAt b1 (o1 + i * 32) (hcs (hs i))) ∧ ∀ i, i < n → w.cell? ⟨b2, o2 + i, none⟩ = some (.int .i64 (ht i))) := by
    rcases hcK with h | ⟨b1, o1, e1, hb1, hc1⟩
    · exact ⟨.inl h⟩
    · rcases h1 with h | ⟨b2, o2, e2, hb2, hc2⟩
      · exact ⟨.inl h⟩
      · exact ⟨.inr ⟨b1, o1, b2, o2, e1, e2, hb1, hb2, hc1, hc2⟩⟩
  clear hcK h1
  rcases hcL with hl | ⟨b0, o0, rfl, hb0, hc0⟩
  all_goals
    rcases hX with hx | ⟨b1, o1, b2, o2, rfl, rfl, hb1, hb2, hc1, hc2⟩
    all_goals
      go_enter Try.func5, Try.ntmps5
      go_wp2_with (go_at_call 15; refine HK15.out.mono ?_)
      rintro e w' ⟨r, rfl, hB⟩
      have HB : Hid (Below w.heap.size w w') := hB
      clear hB HK15
      cases r
      · go_wp2
        go_ret
        exact ⟨rfl, HB.out⟩
      · go_wp2
        go_loop [9] (fun i => ∃ k : Nat, k ≤ n ∧ i = .int .i64 k ∧ Hid (∀ j : Nat, j < k → ht j ≤ (m : Int))) (fun i => n - (intOf i).toNat)
        case atStart => exact ⟨0, Nat.zero_le _, rfl, fun j hj => absurd hj (Nat.not_lt_zero _)⟩
        case round =>
          obtain ⟨k, hk, rfl, HGD⟩ := hrel
          by_cases hlt : k < n
          · first
            | (exfalso; omega)
            | (have hck : w'.cell? ⟨b2, o2 + k, none⟩ = some (.int .i64 (ht k)) := by
                 rw [HB.out.cell (p := ⟨b2, o2 + k, none⟩) hb2]; exact hc2 k hlt
               by_cases h1 : (m : Int) < ht k
               · have e1 := decide_eq_true h1
                 go_wp2
                 go_ret
                 exact ⟨rfl, HB.out⟩
               · have e1 := decide_eq_false h1
                 have HLE : Hid (ht k ≤ (m : Int)) := by show _ ≤ _; omega
                 go_wp2
                 go_round
                 case rel => exact ⟨k + 1, by omega, by go_num, fun j hj => by
                   rcases Nat.lt_succ_iff_lt_or_eq.1 hj with h | rfl
                   · exact HGD.out j h
                   · exact HLE.out⟩
                 case measure => simp [intOf]; omega)
          · have HHT : Hid (∀ j, j < n → ht j ≤ (m : Int)) := fun j hj => HGD.out j (by omega)
            have HK17 : Hid (Calls Try.prog 17 #[.slice _ m c0] w' (Logged w' m ls)) := logOf17 _ c0 m ls w' hm4 (isHashes_below HKL.out HB.out)
            go_wp2_with (go_at_call 17; refine HK17.out.mono ?_)
            rintro e w2 ⟨RL, rfl, hRL1, hRL2, hlog, hB2⟩
            have HLOG : Hid (LogRow w2 RL m ls) := hlog
            have HB2 : Hid (Below w.heap.size w w2) := HB.out.trans (hB2.mono HB.out.size)
            clear hlog hB2 HK17 hRL1
            have HK12 : Hid (Calls Try.prog 12 #[.slice _ n c1, .slice _ n c2, .slice _ n c3] w2 (Watches w2 n hs ht rv)) := watches _ c1 _ c2 _ c3 n hs ht rv w2 h4 (isHashes_below HKH.out HB2.out) (isCells_below HK1.out HB2.out) (isCells_below HK2.out HB2.out)
            go_wp2_with (go_at_call 12; refine HK12.out.mono ?_)
            rintro e w3 ⟨R, rfl, hR1, hR2, hrow, hB3⟩
            have hsz3 : w2.heap.size ≤ w3.heap.size := hB3.size
            have HK16 : Hid (Calls Try.prog 16 #[.slice (some ⟨RL, 0, none⟩) m m, .slice (some ⟨R, 0, none⟩) n n] w3 (RetI w3 (confTo ls hs ht n))) :=
              conflicts16 RL m m R n n ls hs ht rv w3 h4 hm4 (by omega) hR2 HKL.out.1 HKH.out.1 HHT.out (fun i hi q v hv => by
                rw [hB3.cell (p := ⟨RL, i * 32 + q, none⟩) hRL2]; exact HLOG.out i hi q v hv) hrow
            have HB3 : Hid (Below w.heap.size w w3) := HB2.out.trans (hB3.mono HB2.out.size)
            clear hrow hB3 HK12 hR1 hR2 hRL2 hsz3
            go_wp2_with (go_at_call 16; refine HK16.out.mono ?_)
            rintro e w4 ⟨rfl, hB4⟩
            have HB4 : Hid (Below w.heap.size w w4) := HB3.out.trans (hB4.mono HB3.out.size)
            clear hB4 HK16
            have hcl := confTo_le ls hs ht n
            go_wp2
            go_loopw [11, 12] (fun ag i wr => ∃ p q : Nat, p ≤ m ∧ i = .int .i64 p ∧ ag = .int .i64 (agTo ls hs ht n p) ∧ wr = w4.drewN q) (fun _ i _ => m - (intOf i).toNat)
            case atStart => exact ⟨0, 0, Nat.zero_le _, rfl, rfl, rfl⟩
            case round =>
              obtain ⟨p, q5, hp, rfl, rfl, rfl⟩ := hrel
              have hagl := agTo_le (ls := ls) (hs := hs) (ht := ht) (n := n) (p := p) h4 (by omega)
              by_cases hlp : p < m
              · first
                | (exfalso; omega)
                | (go_wp2
                   go_loopw [11, 13] (fun ag i wr => ∃ k q : Nat, k ≤ n ∧ i = .int .i64 k ∧ ag = .int .i64 ((agTo ls hs ht n p + agIn ls hs ht p k : Nat) : Int) ∧ wr = w4.drewN q) (fun _ i _ => n - (intOf i).toNat)
                   case atStart => exact ⟨0, _, Nat.zero_le _, rfl, rfl, rfl⟩
                   case round =>
                     obtain ⟨k6, q6, hk6, rfl, rfl, rfl⟩ := hrel
                     have hail := agIn_le ls hs ht p k6
                     by_cases hlt6 : k6 < n
                     · first
                       | (exfalso; omega)
                       | (have HGL : Hid (∀ q, (w4.drewN q).rangeAt b0 (o0 + p * 32) (hcs (ls p))) := fun _ j v hv => by
                            show w4.cell? _ = _
                            rw [HB4.out.cell (p := ⟨b0, o0 + p * 32 + j, none⟩) hb0]; exact hc0 p hlp j v hv
                          have HGK : Hid (∀ q, (w4.drewN q).rangeAt b1 (o1 + k6 * 32) (hcs (hs k6))) := fun _ j v hv => by
                            show w4.cell? _ = _
                            rw [HB4.out.cell (p := ⟨b1, o1 + k6 * 32 + j, none⟩) hb1]; exact hc1 k6 hlt6 j v hv
                          have hck : w4.cell? ⟨b2, o2 + k6, none⟩ = some (.int .i64 (ht k6)) := by
                            rw [HB4.out.cell (p := ⟨b2, o2 + k6, none⟩) hb2]; exact hc2 k6 hlt6
                          have hk0 : (0 : Int) ≤ (k6 : Int) := Int.natCast_nonneg _
                          have hkn : (k6 : Int) < (n : Int) := by omega
                          have hp0 : (0 : Int) ≤ (p : Int) := Int.natCast_nonneg _
                          have hpm : (p : Int) < (m : Int) := by omega
                          cases hb1' : (ht k6 == (p : Int) + 1)
                          · go_wp2
                            refine wp_region_quiet_lit (by kernel_rfl) (by kernel_rfl) ?_
                            repeat (first | go_big_quiet_skip | (go_big_quiet_want; go_big_quiet_op; go_big_quiet_on))
                            refine wpQuiet_nil ?_
                            intro _ hw'
                            obtain ⟨nq, hw''⟩ := hw'
                            subst hw''
                            go_wp2
                            go_roundw
                            case rel => exact ⟨k6 + 1, _, hlt6, by go_num, by rw [agIn_stay (fun h => beq_eq_false_iff_ne.1 hb1' h.1)], rfl⟩
                            case measure => simp [intOf]; omega
                          · cases hb2' : eqB (hs k6) (ls p)
                            all_goals
                              go_wp2
                              refine wp_region_quiet_lit (by kernel_rfl) (by kernel_rfl) ?_
                              repeat (first | go_big_quiet_skip | (go_big_quiet_want; first | (refine q_load 29 ht29 (.tmp 86) rfl _ _ rfl (hs k6) (HKH.out.1 k6 hlt6).1 (HGK.out _) ?_; go_frame; go_big_quiet_on) | (refine q_load 29 ht29 (.tmp 90) rfl _ _ rfl (ls p) (HKL.out.1 p hlp).1 (HGL.out _) ?_; go_frame; go_big_quiet_on) | (refine q_eql 29 29 ht29 _ _ rfl (hs k6) (ls p) rfl rfl (HKH.out.1 k6 hlt6) (HKL.out.1 p hlp) hb2' ?_; go_frame; go_big_quiet_on) | (go_big_quiet_op; go_big_quiet_on)))
                              refine wpQuiet_nil ?_
                              intro _ hw'
                              obtain ⟨nq, hw''⟩ := hw'
                              subst hw''
                              go_wp2
                              go_roundw
                            · exact ⟨k6 + 1, _, hlt6, by go_num, by rw [agIn_stay (fun h => eqB_false.1 hb2' h.2)], rfl⟩
                            · simp [intOf]; omega
                            · exact ⟨k6 + 1, _, hlt6, by go_num, by rw [agIn_up (beq_iff_eq.1 hb1') (eqB_true.1 hb2')]; go_num, rfl⟩
                            · simp [intOf]; omega)
                     · go_wp2
                       go_roundw
                       case rel => exact ⟨p + 1, _, hlp, by go_num, by rw [show k6 = n from by omega]; rfl, rfl⟩
                       case measure => simp [intOf]; omega)
              · have HFIN : Hid (∀ q, RetTrue w (.returned (.bool true)) (w4.drewN q)) := fun q => ⟨rfl, HB4.out.os, HB4.out.tape, HB4.out.output, HB4.out.size, HB4.out.block⟩
                have HK18 : Hid (∀ q, Calls Try.prog 18 #[.slice _ n c2] (w4.drewN q) fun e w' => e = .returned (.int .i64 (posTo ht n)) ∧ w' = w4.drewN q) := fun q => positive18 _ c2 n ht (w4.drewN q) h4 (isCells_below HK1.out ⟨HB4.out.os, HB4.out.tape, HB4.out.output, HB4.out.size, HB4.out.block⟩)
                have hlaw := law (ls := ls) (hs := hs) (ht := ht) (n := n) (m := m) HHT.out
                have hfin : ((confTo ls hs ht n : Int) == (posTo ht n : Int) - (agTo ls hs ht n p : Int)) = true := by
                  rw [beq_iff_eq, show p = m from by omega]; omega
                have hpl := posTo_le ht n
                clear hlaw
                go_wp2_with (go_at_call 18; refine (HK18.out _).mono ?_)
                rintro e w7 ⟨rfl, rfl⟩
                go_wp2
                go_ret
                exact HFIN.out _

/-- The walk, whatever the input. -/
theorem walk (a0 : Option Addr) (l0 c0 : Nat) (a1 : Option Addr) (l1 c1 : Nat) (a2 : Option Addr) (l2 c2 : Nat) (a3 : Option Addr) (l3 c3 : Nat) (ls hs : Nat → List Int) (ht : Nat → Int) (rv : Nat → Bool) (w : World) (hl0 : l0 ≤ maxLen) (hl1 : l1 ≤ maxLen) (hl2 : l2 ≤ maxLen) (hl3 : l3 ≤ maxLen)
    (hnb : ∀ i, i < l2 → -9223372036854775808 ≤ ht i ∧ ht i ≤ 9223372036854775807)
    (hL : IsHashes w a0 l0 ls) (hK : IsHashes w a1 l1 hs) (h1 : IsCells w a2 l2 fun i => .int .i64 (ht i)) (h2 : IsCells w a3 l3 fun i => .bool (rv i)) :
    Calls Try.prog 5 #[.slice a0 l0 c0, .slice a1 l1 c1, .slice a2 l2 c2, .slice a3 l3 c3] w (RetTrue w) := by
  by_cases hg : l1 = l2 ∧ l3 = l2 ∧ l2 ≤ 4096 ∧ l0 ≤ 4096
  · obtain ⟨rfl, rfl, h4, h5⟩ := hg
    exact walk_main a0 l0 c0 a1 l3 c1 a2 c2 a3 c3 ls hs ht rv w h4 h5 hnb hL hK h1 h2
  · exact walk_early a0 l0 c0 a1 l1 c1 a2 l2 c2 a3 l3 c3 w hl0 hl1 hl2 hl3 (by omega)

set_option maxRecDepth 100000 in
theorem lifted (os : Os) (started : os.Started) (H : Type) (enc : TypeId × Value → H) :
    ReturnsInHanded {} Try.checked os 5 .any (Rows.fnConflictsCountsMismatchByPositionSpec.pre6 enc Try.prog Try.f5 Rows.fnConflictsCountsMismatchByPositionRow.domain false) (Rows.fnConflictsCountsMismatchByPositionSpec.post enc Try.prog Try.f5 false true false false) := by
  refine returnsInHanded_of_change (C := Try.checked) Try.own started (by kernel_rfl) Try.func5
    (ChangeSpec.witness6 (enc := enc) (C := Try.checked) false ⟨#[], #[.slice none 0 0, .slice none 0 0, .slice none 0 0, .slice none 0 0], []⟩ 8 (by kernel_rfl) (by kernel_rfl) (by kernel_rfl) (by kernel_rfl)) ?_
  intro W base args ds gs before hval0 hW hcnd _
  have hval : ∀ (j : Nat) t v, Try.f5.params[j]? = some t → args[j]? = some v → Value.okWide Try.prog W .any base t v := hval0
  have hW' := hW
  obtain ⟨p, q, hA0, hV, rfl, hfz, hnd⟩ := hW
  have hA : DataW.TrodAll enc Try.prog W 0 (fun _ => true) true Try.f5.params.toList args.toList ds p := hA0
  rw [Try.params5] at hA hval
  obtain ⟨v0, vs0, d0, ds0, p0, q0, hargs, rfl, rfl, h0, r0⟩ := trodAll_cons hA
  obtain ⟨v1, vs1, d1, ds1, p1, q1, rfl, rfl, rfl, h1, r1⟩ := trodAll_cons r0
  obtain ⟨v2, vs2, d2, ds2, p2, q2, rfl, rfl, rfl, h2, r2⟩ := trodAll_cons r1
  obtain ⟨v3, vs3, d3, ds3, p3, q3, rfl, rfl, rfl, h3, r3⟩ := trodAll_cons r2
  obtain ⟨rfl, rfl, rfl⟩ := trodAll_nil r3
  obtain rfl : args = #[v0, v1, v2, v3] := by cases args; simp_all
  obtain ⟨rfl, rfl⟩ := trodVars_none hV
  obtain ⟨a0, len0, cap0, rfl⟩ := okWide_slice Try.underlying22 (hval 0 22 v0 rfl rfl)
  have k0 := h0
  have lt0 : ∀ x ∈ p0, x.block < W.heap.size := by obtain ⟨m, hm⟩ := k0; exact DataW.trod_lt m _ _ _ hm
  obtain ⟨hl0, hs0, hK0⟩ : len0 ≤ maxLen ∧ ∃ hs, IsHashes W a0 len0 hs := by
    obtain ⟨fuel, hf⟩ := h0
    exact open_hashes hf
  obtain ⟨a1, len1, cap1, rfl⟩ := okWide_slice Try.underlying22 (hval 1 22 v1 rfl rfl)
  have k1 := h1
  have lt1 : ∀ x ∈ p1, x.block < W.heap.size := by obtain ⟨m, hm⟩ := k1; exact DataW.trod_lt m _ _ _ hm
  obtain ⟨hl1, hs1, hK1⟩ : len1 ≤ maxLen ∧ ∃ hs, IsHashes W a1 len1 hs := by
    obtain ⟨fuel, hf⟩ := h1
    exact open_hashes hf
  obtain ⟨a2, len2, cap2, rfl⟩ := okWide_slice Try.underlying23 (hval 2 23 v2 rfl rfl)
  have k2 := h2
  have lt2 : ∀ x ∈ p2, x.block < W.heap.size := by obtain ⟨m, hm⟩ := k2; exact DataW.trod_lt m _ _ _ hm
  obtain ⟨hl2, nd2, hnb2, hK2⟩ : len2 ≤ maxLen ∧ ∃ nd : Nat → Int, (∀ i, i < len2 → -9223372036854775808 ≤ nd i ∧ nd i ≤ 9223372036854775807) ∧ IsCells W a2 len2 (fun i => .int .i64 (nd i)) := by
    obtain ⟨fuel, hf⟩ := h2
    exact open_nums hf
  obtain ⟨a3, len3, cap3, rfl⟩ := okWide_slice Try.underlying24 (hval 3 24 v3 rfl rfl)
  have k3 := h3
  have lt3 : ∀ x ∈ p3, x.block < W.heap.size := by obtain ⟨m, hm⟩ := k3; exact DataW.trod_lt m _ _ _ hm
  obtain ⟨hl3, rv3, hK3⟩ : len3 ≤ maxLen ∧ ∃ rv : Nat → Bool, IsCells W a3 len3 (fun i => .bool (rv i)) := by
    obtain ⟨fuel, hf⟩ := h3
    exact open_bools hf
  clear hA0 hval0
  refine (walk a0 len0 cap0 a1 len1 cap1 a2 len2 cap2 a3 len3 cap3 hs0 hs1 nd2 rv3 W hl0 hl1 hl2 hl3 hnb2 hK0 hK1 hK2 hK3).mono fun e W' ⟨he, bel⟩ => ?_
  subst he
  exact ⟨_, rfl, _, _, _, [], _, [], hW', trodAll_mk1 (shut_bool Try.underlying4 _), (trodAll_cons_mk (Below.trod Try.laidOut (by kernel_rfl) (of_decide_eq_true (by kernel_rfl)) k0 bel lt0) (trodAll_cons_mk (Below.trod Try.laidOut (by kernel_rfl) (of_decide_eq_true (by kernel_rfl)) k1 bel lt1) (trodAll_cons_mk (Below.trod Try.laidOut (by kernel_rfl) (of_decide_eq_true (by kernel_rfl)) k2 bel lt2) (trodAll_cons_mk (Below.trod Try.laidOut (by kernel_rfl) (of_decide_eq_true (by kernel_rfl)) k3 bel lt3) trodAll_mk0)))), rfl, bel.frame _, fun h => by cases h⟩

theorem over : Rows.fnConflictsCountsMismatchByPositionRow.holds Try.pinned (OpenSpec.ofChange Rows.fnConflictsCountsMismatchByPositionSpec) :=
  OpenClaim.holds_of_wide 5 Try.f5 rfl rfl rfl rfl rfl rfl rfl ⟨rfl, rfl, rfl, rfl, rfl⟩ rfl rfl rfl rfl rfl (by kernel_rfl) Try.func5 (by kernel_rfl)
    (of_decide_eq_true (by kernel_rfl)) (by unfold Func.isWrapper; first | (rw [if_pos (by decide +kernel)]; kernel_rfl) | (rw [if_neg (by decide +kernel)]; exact ⟨rfl, rfl⟩))
    (fun os started H enc _ => lifted os started H enc)

/-- ████ THE STATEMENT ████ -/
theorem proved : Rows.FnConflictsCountsMismatchByPositionSaid := over
#print axioms proved
end Go.Proofs.Qxb6602710a.fnConflictsCountsMismatchByPosition
