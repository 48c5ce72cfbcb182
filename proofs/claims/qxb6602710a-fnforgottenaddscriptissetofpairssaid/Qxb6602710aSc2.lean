/-
  Seat b6602710a: 'FnForgottenAddScriptIsSetOfPairs' (9): the main way of the walk.
-/
import Derived.Test.Qxb6602710aSc1
namespace Go.Proofs.Qxb6602710a
open Go.ChangeShapes Go.WideShapes Go.ChangeAt Go.RowKit

/-- 'x & (1 << b) == 0' says no where the bit is set. -/
theorem and_bit_ne {m node : Nat} (hm : m < 2 ^ 64) (h : m.testBit (node % 64) = true) : (bits BinOp.and IntKind.u64 (m : Int) (IntKind.u64.wrap (2 ^ (node % 64))) == 0) = false := by
  rw [wrap_pow, u64_and_nat m _ hm (pow64_lt node), beq_eq_false_iff_ne]
  have := and_pow_ne h
  omega

theorem and_pred (x : Nat) (h0 : x ≠ 0) (hx : x < 2 ^ 64) : bits BinOp.and IntKind.u64 (x : Int) ((x : Int) - 1) = ((x &&& (x - 1) : Nat) : Int) := by
  have e : ((x : Int) - 1) = ((x - 1 : Nat) : Int) := by omega
  rw [e]
  exact u64_and_nat x (x - 1) hx (by omega)

theorem sumTo_bit_le (p : Nat → Bool) (k : Nat) : sumTo (fun i => if p i = true then 1 else 0) k ≤ k := by
  have := sumTo_le (f := fun i => if p i = true then 1 else 0) (c := 1) (n := k) (fun i _ => by show (if p i = true then 1 else 0) ≤ 1; split <;> omega)
  omega
theorem pairsTo_le (hs : Nat → List Int) (no : Nat → Nat) (k : Nat) : pairsTo hs no k ≤ k := sumTo_bit_le _ k
theorem keysN_le (hs : Nat → List Int) (k : Nat) : keysN hs k ≤ k := sumTo_bit_le _ k
theorem pairsTo_succ (hs : Nat → List Int) (no : Nat → Nat) (k : Nat) : pairsTo hs no (k + 1) = pairsTo hs no k + if freshB hs no k = true then 1 else 0 := rfl
theorem keysN_succ (hs : Nat → List Int) (k : Nat) : keysN hs (k + 1) = keysN hs k + if firstB hs k = true then 1 else 0 := rfl
theorem firstSum_succ (f : List Int → Nat) (hs : Nat → List Int) (k : Nat) : firstSum f hs (k + 1) = firstSum f hs k + if firstB hs k = true then f (hs k) else 0 := rfl

theorem rowBits_succ (j : Nat) (hs : Nat → List Int) (no : Nat → Nat) (k : Nat) (x : List Int) : rowBits (j + 1) hs no k x = rowBits j hs no k x + pcf 64 (scriptN hs no k x j) := rfl
theorem rowBits_le (j : Nat) (hs : Nat → List Int) (no : Nat → Nat) (k : Nat) (x : List Int) : rowBits j hs no k x ≤ j * 64 := sumTo_le fun _ _ => pcf_le 64 _
theorem firstSum_le {f : List Int → Nat} {c : Nat} (hs : Nat → List Int) (k : Nat) (h : ∀ x, f x ≤ c) : firstSum f hs k ≤ k * c := by
  refine sumTo_le fun i _ => ?_
  show (if firstB hs i = true then f (hs i) else 0) ≤ c
  split
  · exact h _
  · omega
theorem bits_bound {l0 words k : Nat} (hmul : l0 * words ≤ 65536) (hk : k ≤ l0) (hs : Nat → List Int) (no : Nat → Nat) : firstSum (rowBits words hs no l0) hs k ≤ 4194304 := by
  have h1 := firstSum_le hs k (fun x => rowBits_le words hs no l0 x)
  have h2 : k * (words * 64) ≤ l0 * (words * 64) := Nat.mul_le_mul_right _ hk
  have h3 : l0 * (words * 64) = l0 * words * 64 := by rw [Nat.mul_assoc]
  omega

set_option linter.unusedSimpArgs false in
set_option maxRecDepth 1000000 in
set_option maxHeartbeats 4000000 in
theorem walk9_main (words : Nat) (a1 : Option Addr) (l0 c1 : Nat) (a2 : Option Addr) (c2 : Nat) (nd : Nat → Int) (hs : Nat → List Int) (w : World)
    (h4 : l0 ≤ 4096) (hw1 : 1 ≤ words) (hw2 : words ≤ 1024) (hmul : l0 * words ≤ 65536) (hhs : ∀ i, i < l0 → Hash (hs i)) (hnb : ∀ i, i < l0 → -9223372036854775808 ≤ nd i ∧ nd i ≤ 9223372036854775807)
    (hc : l0 < 1 ∨ ∃ b1 o1 b2 o2, a1 = some ⟨b1, o1, none⟩ ∧ a2 = some ⟨b2, o2, none⟩ ∧ b1 < w.heap.size ∧ b2 < w.heap.size ∧ (∀ i, i < l0 → w.cell? ⟨b1, o1 + i, none⟩ = some (.int .i64 (nd i))) ∧
      (∀ i, i < l0 → w.rangeAt b2 (o2 + i * 32) (hcs (hs i)))) :
    Calls Try.prog 9 #[.int .i64 words, .slice a1 l0 c1, .slice a2 l0 c2] w (RetT w) := by
  have HK : Hid (Calls Try.prog 23 #[.int .i64 words, .slice a1 l0 c1, .slice a2 l0 c2] w (RetB w)) := bytes23 words a1 l0 c1 a2 l0 c2 w (by unfold maxLen; omega) (by unfold maxLen; omega)
  have HHS : Hid (∀ i, i < l0 → Hash (hs i)) := hhs
  have HNB : Hid (∀ i, i < l0 → -9223372036854775808 ≤ nd i ∧ nd i ≤ 9223372036854775807) := hnb
  clear hhs hnb
  have d1 : decide ((words : Int) < 1) = false := decide_eq_false (by omega)
  have d2 : decide ((1024 : Int) < (words : Int)) = false := decide_eq_false (by omega)
  have hm1 : (l0 : Int) * (words : Int) ≤ 65536 := by
    have : ((l0 * words : Nat) : Int) ≤ 65536 := by omega
    rwa [Int.natCast_mul] at this
  have hm0 : 0 ≤ (l0 : Int) * (words : Int) := Int.mul_nonneg (by omega) (by omega)
  have d3 : decide ((65536 : Int) < (l0 : Int) * (words : Int)) = false := decide_eq_false (by omega)
  rcases hc with hc | ⟨b1, o1, b2, o2, rfl, rfl, hb1, hb2, hc1, hc2⟩
  all_goals
    go_enter Try.func9, Try.ntmps9
    go_wp2_with (go_at_call 23; refine HK.out.mono ?_)
    rintro e w' ⟨r, rfl, hB⟩
    have HB0 : Hid (Below w.heap.size w w') := hB
    have hsz : w.heap.size ≤ w'.heap.size := hB.size
    clear hB HK
    cases r
    · go_wp2
      go_ret
      exact ⟨rfl, HB0.out⟩
    · go_wp2
      go_loop [7] (fun i => ∃ k : Nat, k ≤ l0 ∧ i = .int .i64 k ∧ Hid (∀ j : Nat, j < k → 0 ≤ nd j ∧ nd j < 64 * (words : Int))) (fun i => l0 - (intOf i).toNat)
      case atStart => exact ⟨0, Nat.zero_le _, rfl, fun j hj => absurd hj (Nat.not_lt_zero _)⟩
      case round =>
        obtain ⟨k, hk, rfl, HGD⟩ := hrel
        by_cases hlt : k < l0
        · first
          | (exfalso; omega)
          | (have hck : w'.cell? ⟨b1, o1 + k, none⟩ = some (.int .i64 (nd k)) := by
               rw [HB0.out.cell (p := ⟨b1, o1 + k, none⟩) hb1]; exact hc1 k hlt
             have hnk := HNB.out k hlt
             by_cases h1 : nd k < 0
             · have e1 := decide_eq_true h1
               go_wp2
               go_ret
               exact ⟨rfl, HB0.out⟩
             · have e1 := decide_eq_false h1
               by_cases h2 : 64 * (words : Int) ≤ nd k
               · have e2 := decide_eq_true h2
                 go_wp2
                 go_ret
                 exact ⟨rfl, HB0.out⟩
               · have e2 := decide_eq_false h2
                 go_wp2
                 go_round
                 case rel => exact ⟨k + 1, by omega, by go_num, fun j hj => by
                   rcases Nat.lt_succ_iff_lt_or_eq.1 hj with h | rfl
                   · exact HGD.out j h
                   · omega⟩
                 case measure => simp [intOf]; omega)
        · obtain ⟨no, hno⟩ : ∃ no : Nat → Nat, ∀ i, i < l0 → nd i = (no i : Int) ∧ no i < 64 * words := ⟨fun i => (nd i).toNat, fun i hi => by
            have := HGD.out i (by omega)
            show nd i = ((nd i).toNat : Int) ∧ (nd i).toNat < 64 * words
            omega⟩
          have HNO : Hid (∀ i, i < l0 → nd i = (no i : Int) ∧ no i < 64 * words) := hno
          clear hno HGD
          have hmm := @run_makeMap Try.prog
          go_wp2
          clear hmm
          go_loopw [9] (fun i wr => ∃ k : Nat, k ≤ l0 ∧ i = .int .i64 k ∧ Rec wr w'.heap.size w'.heap.size k words (keysTo hs k) (scriptZ hs no k) ∧ Below w'.heap.size w' wr) (fun i _ => l0 - (intOf i).toNat)
          case atStart => exact ⟨0, Nat.zero_le _, rfl, rec_made _ _ _ _, (Below.refl _ _).alloc (Nat.le_refl _) _⟩
          case round =>
            revert wr
            intro w3 hrel
            obtain ⟨k3, hk3, rfl, hRec, hBel⟩ := hrel
            have HREC : Hid (Rec w3 w'.heap.size w'.heap.size k3 words (keysTo hs k3) (scriptZ hs no k3)) := hRec
            have HBEL : Hid (Below w'.heap.size w' w3) := hBel
            clear hRec hBel
            have hsz3 : w'.heap.size < w3.heap.size := HREC.out.lt
            by_cases hlt3 : k3 < l0
            · first
              | (exfalso; omega)
              | (have hcn : w3.cell? ⟨b1, o1 + k3, none⟩ = some (.int .i64 ((no k3 : Nat) : Int)) := by
                   rw [HBEL.out.cell (p := ⟨b1, o1 + k3, none⟩) (by show b1 < _; omega), HB0.out.cell (p := ⟨b1, o1 + k3, none⟩) hb1, hc1 k3 hlt3, (HNO.out k3 hlt3).1]
                 have HRG : Hid (w3.drew.rangeAt b2 (o2 + k3 * 32) (hcs (hs k3))) := fun q v hv => by
                   show w3.cell? _ = _
                   rw [HBEL.out.cell (p := ⟨b2, o2 + k3 * 32 + q, none⟩) (by show b2 < _; omega), HB0.out.cell (p := ⟨b2, o2 + k3 * 32 + q, none⟩) hb2]
                   exact hc2 k3 hlt3 q v hv
                 have HK22 : Hid (Calls Try.prog 22 #[.map (some w'.heap.size), .int .i64 words, .int .i64 (no k3 : Nat), .agg (hcs (hs k3)).toArray] w3.drew (AddPost w3.drew w'.heap.size w'.heap.size k3 words (keysTo hs k3) (scriptZ hs no k3) (hs k3) (no k3))) :=
                   add22 w3.drew _ _ k3 words _ _ (hs k3) (no k3) HREC.out.drew (HHS.out k3 hlt3) (HNO.out k3 hlt3).2 (by omega) (by show _ ≤ w3.heap.size; omega) (by unfold maxLen; omega) (Nat.le_refl _)
                 have HHK : Hid ((hs k3).length = 32) := (HHS.out k3 hlt3).1
                 go_wp2
                 refine region_tail 10 (by kernel_rfl) (by kernel_rfl) _ _ rfl rfl ?_
                 simp only [List.take_succ_cons, List.take_zero, List.drop_succ_cons, List.drop_zero]
                 repeat (first | (refine s_load rfl 29 ht29 (.tmp 87) rfl _ _ rfl (hs k3) HHK.out HRG.out ?_; go_frame) | still_step)
                 refine wpStill_nil ?_
                 go_wp2_with (go_at_call 22; refine HK22.out.mono ?_)
                 rintro e w5 ⟨rfl, hRec5, hBel5⟩
                 have HREC5 : Hid (Rec w5 w'.heap.size w'.heap.size (k3 + 1) words (keysTo hs (k3 + 1)) (scriptZ hs no (k3 + 1))) := hRec5
                 have HBEL5 : Hid (Below w'.heap.size w' w5) := HBEL.out.drew.trans hBel5
                 clear hRec5 hBel5 HK22 HRG
                 go_wp2
                 go_roundw
                 case rel => exact ⟨k3 + 1, by omega, by go_num, HREC5.out, HBEL5.out⟩
                 case measure => simp [intOf]; omega)
            · have HRO0 : Hid (Rec w3 w'.heap.size w'.heap.size l0 words (keysTo hs l0) (scriptZ hs no l0)) := by
                have e : k3 = l0 := by omega
                exact e ▸ HREC.out
              obtain ⟨D, g, hRo⟩ := HRO0.out
              have HRO : Hid (RecOf w3 w'.heap.size w'.heap.size l0 words (keysTo hs l0) (scriptZ hs no l0) D g) := hRo
              clear hRo HREC HRO0
              have hwne : ((words : Int) != (words : Int)) = false := by simp
              go_wp2
              go_loopw [10] (fun i wr => ∃ k m : Nat, k ≤ l0 ∧ i = .int .i64 k ∧ wr = w3.drewN m) (fun i _ => l0 - (intOf i).toNat)
              case atStart => exact ⟨0, 0, Nat.zero_le _, rfl, rfl⟩
              case round =>
                obtain ⟨k5, m5, hk5, rfl, rfl⟩ := hrel
                by_cases hlt5 : k5 < l0
                · first
                  | (exfalso; omega)
                  | (have HG : Hid (∀ m, (w3.drewN m).rangeAt b2 (o2 + k5 * 32) (hcs (hs k5))) := fun m q v hv => by
                       show w3.cell? _ = _
                       rw [HBEL.out.cell (p := ⟨b2, o2 + k5 * 32 + q, none⟩) (by show b2 < _; omega), HB0.out.cell (p := ⟨b2, o2 + k5 * 32 + q, none⟩) hb2]
                       exact hc2 k5 hlt5 q v hv
                     have hcn : w3.cell? ⟨b1, o1 + k5, none⟩ = some (.int .i64 ((no k5 : Nat) : Int)) := by
                       rw [HBEL.out.cell (p := ⟨b1, o1 + k5, none⟩) (by show b1 < _; omega), HB0.out.cell (p := ⟨b1, o1 + k5, none⟩) hb1, hc1 k5 hlt5, (HNO.out k5 hlt5).1]
                     have hkS : hs k5 ∈ keysTo hs l0 := mem_keysTo.2 ⟨k5, hlt5, rfl⟩
                     have HLK : Hid (∀ m, (Instr.lookup 44 (.map (some w'.heap.size)) (.agg (hcs (hs k5)).toArray) true).run Try.prog (w3.drewN m) = .ok (.tuple #[.slice (some ⟨g (hs k5), 0, none⟩) words words, .bool true]) (w3.drewN m)) := fun m =>
                       (HRO.out.kept (w' := w3.drewN m) rfl (fun _ _ => rfl)).look hkS
                     have hnk := (HNO.out k5 hlt5).2
                     have hgot := (HRO.out.row _ hkS).cell (i := no k5 / 64) (by omega)
                     rw [scriptZ_nat] at hgot
                     have hbit := and_bit_ne (node := no k5) (scriptN_lt (hs := hs) (no := no) (hs k5) (no k5 / 64) l0) ((scriptN_bit (hs := hs) (no := no) (hs k5) (no k5 / 64) (no k5 % 64) (Nat.mod_lt _ (by decide)) l0).2 ⟨k5, hlt5, rfl, rfl, rfl⟩)
                     have hand := i64_and63 ((no k5 : Nat) : Int)
                     have hi2 : ((no k5 : Nat) : Int) / 64 < (words : Int) := by omega
                     clear hkS
                     go_wp2_with (first | (refine wl_load rfl 29 ht29 (.tmp 100) rfl _ _ rfl (hs k5) (HHS.out k5 hlt5).1 (HG.out _) ?_) | (refine wl_lookup rfl 44 _ _ true rfl _ _ _ rfl rfl (HLK.out _) ?_))
                     refine wp_region_quiet_lit (by kernel_rfl) (by kernel_rfl) ?_
                     repeat (first | go_big_quiet_skip | (go_big_quiet_want; go_big_quiet_op; go_big_quiet_on))
                     refine wpQuiet_nil ?_
                     intro _ hw'
                     obtain ⟨nq, hw''⟩ := hw'
                     subst hw''
                     go_wp2
                     go_roundw
                     case rel => exact ⟨k5 + 1, _, hlt5, by go_num, rfl⟩
                     case measure => simp [intOf]; omega)
                · go_wp2
                  go_loopw [13, 14] (fun p i wr => ∃ k m : Nat, k ≤ l0 ∧ i = .int .i64 k ∧ p = .int .i64 (pairsTo hs no k) ∧ wr = w3.drewN m) (fun _ i _ => l0 - (intOf i).toNat)
                  case atStart => exact ⟨0, _, Nat.zero_le _, rfl, rfl, rfl⟩
                  case round =>
                    obtain ⟨k6, m6, hk6, rfl, rfl, rfl⟩ := hrel
                    have hpl := pairsTo_le hs no k6
                    by_cases hlt6 : k6 < l0
                    · first
                      | (exfalso; omega)
                      | (have HG : Hid (∀ q, q < l0 → ∀ m, (w3.drewN m).rangeAt b2 (o2 + q * 32) (hcs (hs q))) := fun q hq m j v hv => by
                           show w3.cell? _ = _
                           rw [HBEL.out.cell (p := ⟨b2, o2 + q * 32 + j, none⟩) (by show b2 < _; omega), HB0.out.cell (p := ⟨b2, o2 + q * 32 + j, none⟩) hb2]
                           exact hc2 q hq j v hv
                         have HCN : Hid (∀ q, q < l0 → w3.cell? ⟨b1, o1 + q, none⟩ = some (.int .i64 ((no q : Nat) : Int))) := fun q hq => by
                           rw [HBEL.out.cell (p := ⟨b1, o1 + q, none⟩) (by show b1 < _; omega), HB0.out.cell (p := ⟨b1, o1 + q, none⟩) hb1, hc1 q hq, (HNO.out q hq).1]
                         have hcn6 := HCN.out k6 hlt6
                         go_wp2
                         go_loopw [15, 16] (fun fr j wr => ∃ j7 m : Nat, j7 ≤ k6 ∧ j = .int .i64 j7 ∧ fr = .bool true ∧ wr = w3.drewN m ∧ Hid (∀ q : Nat, q < j7 → ¬ (hs q = hs k6 ∧ no q = no k6))) (fun _ j _ => k6 - (intOf j).toNat)
                         case atStart => exact ⟨0, _, Nat.zero_le _, rfl, rfl, rfl, fun q h => absurd h (Nat.not_lt_zero _)⟩
                         case round =>
                           obtain ⟨j7, m7, hj7, rfl, rfl, rfl, HNP⟩ := hrel
                           by_cases hlt7 : j7 < k6
                           · have hlt7' : j7 < l0 := by omega
                             have hcn7 := HCN.out j7 hlt7'
                             cases hb7 : eqB (hs j7) (hs k6)
                             · go_wp2
                               refine wp_region_quiet_lit (by kernel_rfl) (by kernel_rfl) ?_
                               repeat (first | go_big_quiet_skip | (go_big_quiet_want; first | (refine q_load 29 ht29 (.tmp 143) rfl _ _ rfl (hs j7) (HHS.out j7 hlt7').1 (HG.out j7 hlt7' _) ?_; go_frame; go_big_quiet_on) | (refine q_load 29 ht29 (.tmp 147) rfl _ _ rfl (hs k6) (HHS.out k6 hlt6).1 (HG.out k6 hlt6 _) ?_; go_frame; go_big_quiet_on) | (refine q_eql 29 29 ht29 _ _ rfl (hs j7) (hs k6) rfl rfl (HHS.out j7 hlt7') (HHS.out k6 hlt6) hb7 ?_; go_frame; go_big_quiet_on) | (go_big_quiet_op; go_big_quiet_on)))
                               refine wpQuiet_nil ?_
                               intro _ hw'
                               obtain ⟨nq7, hw''⟩ := hw'
                               subst hw''
                               go_wp2
                               go_roundw
                               case rel => exact ⟨j7 + 1, _, hlt7, by go_num, rfl, rfl, fun q h => by
                                 rcases Nat.lt_succ_iff_lt_or_eq.1 h with h | rfl
                                 · exact HNP.out q h
                                 · exact fun e => eqB_false.1 hb7 e.1⟩
                               case measure => simp [intOf]; omega
                             · cases hn7 : (((no j7 : Nat) : Int) == ((no k6 : Nat) : Int))
                               all_goals
                                 go_wp2
                                 refine wp_region_quiet_lit (by kernel_rfl) (by kernel_rfl) ?_
                                 repeat (first | go_big_quiet_skip | (go_big_quiet_want; first | (refine q_load 29 ht29 (.tmp 143) rfl _ _ rfl (hs j7) (HHS.out j7 hlt7').1 (HG.out j7 hlt7' _) ?_; go_frame; go_big_quiet_on) | (refine q_load 29 ht29 (.tmp 147) rfl _ _ rfl (hs k6) (HHS.out k6 hlt6).1 (HG.out k6 hlt6 _) ?_; go_frame; go_big_quiet_on) | (refine q_eql 29 29 ht29 _ _ rfl (hs j7) (hs k6) rfl rfl (HHS.out j7 hlt7') (HHS.out k6 hlt6) hb7 ?_; go_frame; go_big_quiet_on) | (go_big_quiet_op; go_big_quiet_on)))
                                 refine wpQuiet_nil ?_
                                 intro _ hw'
                                 obtain ⟨nq7, hw''⟩ := hw'
                                 subst hw''
                                 go_wp2
                                 go_roundw
                               · exact ⟨j7 + 1, _, hlt7, by go_num, rfl, rfl, fun q h => by
                                   rcases Nat.lt_succ_iff_lt_or_eq.1 h with h | rfl
                                   · exact HNP.out q h
                                   · exact fun e => beq_eq_false_iff_ne.1 hn7 (by rw [e.2])⟩
                               · simp [intOf]; omega
                               · exact ⟨k6 + 1, _, hlt6, by go_num, by rw [pairsTo_succ, freshB_false hlt7 (eqB_true.1 hb7) (by have := beq_iff_eq.1 hn7; omega)]; rfl, rfl⟩
                               · simp [intOf]; omega
                           · go_wp2
                             go_roundw
                             case rel => exact ⟨k6 + 1, _, hlt6, by go_num, by rw [pairsTo_succ, if_pos (freshB_true.2 fun q hq => HNP.out q (by omega))]; go_num, rfl⟩
                             case measure => simp [intOf]; omega)
                    · go_wp2
                      go_loopw [17, 18, 19] (fun kn bn i wr => ∃ k m : Nat, k ≤ l0 ∧ i = .int .i64 k ∧ kn = .int .i64 (keysN hs k) ∧ bn = .int .i64 (firstSum (rowBits words hs no l0) hs k) ∧ wr = w3.drewN m) (fun _ _ i _ => l0 - (intOf i).toNat)
                      case atStart => exact ⟨0, _, Nat.zero_le _, rfl, rfl, rfl, rfl⟩
                      case round =>
                        obtain ⟨k8, m8, hk8, rfl, rfl, rfl, rfl⟩ := hrel
                        have hkl := keysN_le hs k8
                        have hfl := bits_bound (k := k8) hmul hk8 hs no
                        by_cases hlt8 : k8 < l0
                        · first
                          | (exfalso; omega)
                          | (have HG : Hid (∀ q, q < l0 → ∀ m, (w3.drewN m).rangeAt b2 (o2 + q * 32) (hcs (hs q))) := fun q hq m j v hv => by
                               show w3.cell? _ = _
                               rw [HBEL.out.cell (p := ⟨b2, o2 + q * 32 + j, none⟩) (by show b2 < _; omega), HB0.out.cell (p := ⟨b2, o2 + q * 32 + j, none⟩) hb2]
                               exact hc2 q hq j v hv
                             go_wp2
                             go_loopw [20, 21] (fun fr j wr => ∃ j9 m : Nat, j9 ≤ k8 ∧ j = .int .i64 j9 ∧ fr = .bool true ∧ wr = w3.drewN m ∧ Hid (∀ q : Nat, q < j9 → ¬ hs q = hs k8)) (fun _ j _ => k8 - (intOf j).toNat)
                             case atStart => exact ⟨0, _, Nat.zero_le _, rfl, rfl, rfl, fun q h => absurd h (Nat.not_lt_zero _)⟩
                             case round =>
                               obtain ⟨j9, m9, hj9, rfl, rfl, rfl, HNP⟩ := hrel
                               by_cases hlt9 : j9 < k8
                               · have hlt9' : j9 < l0 := by omega
                                 cases hb9 : eqB (hs j9) (hs k8)
                                 all_goals
                                   go_wp2
                                   refine wp_region_quiet_lit (by kernel_rfl) (by kernel_rfl) ?_
                                   repeat (first | go_big_quiet_skip | (go_big_quiet_want; first | (refine q_load 29 ht29 (.tmp 177) rfl _ _ rfl (hs j9) (HHS.out j9 hlt9').1 (HG.out j9 hlt9' _) ?_; go_frame; go_big_quiet_on) | (refine q_load 29 ht29 (.tmp 181) rfl _ _ rfl (hs k8) (HHS.out k8 hlt8).1 (HG.out k8 hlt8 _) ?_; go_frame; go_big_quiet_on) | (refine q_eql 29 29 ht29 _ _ rfl (hs j9) (hs k8) rfl rfl (HHS.out j9 hlt9') (HHS.out k8 hlt8) hb9 ?_; go_frame; go_big_quiet_on) | (go_big_quiet_op; go_big_quiet_on)))
                                   refine wpQuiet_nil ?_
                                   intro _ hw'
                                   obtain ⟨nq9, hw''⟩ := hw'
                                   subst hw''
                                   go_wp2
                                   go_roundw
                                 · exact ⟨j9 + 1, _, hlt9, by go_num, rfl, rfl, fun q h => by
                                     rcases Nat.lt_succ_iff_lt_or_eq.1 h with h | rfl
                                     · exact HNP.out q h
                                     · exact eqB_false.1 hb9⟩
                                 · simp [intOf]; omega
                                 · exact ⟨k8 + 1, _, hlt8, by go_num, by rw [keysN_succ, firstB_false hlt9 (eqB_true.1 hb9)]; rfl, by rw [firstSum_succ, firstB_false hlt9 (eqB_true.1 hb9)]; rfl, rfl⟩
                                 · simp [intOf]; omega
                               · have HFB : Hid (firstB hs k8 = true) := firstB_true.2 fun q hq => HNP.out q (by omega)
                                 have hkS : hs k8 ∈ keysTo hs l0 := mem_keysTo.2 ⟨k8, hlt8, rfl⟩
                                 have HLK : Hid (∀ m, (Instr.lookup 44 (.map (some w'.heap.size)) (.agg (hcs (hs k8)).toArray) false).run Try.prog (w3.drewN m) = .ok (.slice (some ⟨g (hs k8), 0, none⟩) words words) (w3.drewN m)) := fun m =>
                                   (HRO.out.kept (w' := w3.drewN m) rfl (fun _ _ => rfl)).look1 hkS
                                 have HROW : Hid (w3.rowIs (g (hs k8)) 45 words (fun i => .int .u64 (scriptZ hs no l0 (hs k8) i))) := HRO.out.row _ hkS
                                 clear hkS
                                 go_wp2_with (first | (refine wl_load rfl 29 ht29 (.tmp 191) rfl _ _ rfl (hs k8) (HHS.out k8 hlt8).1 (HG.out k8 hlt8 _) ?_) | (refine wl_lookup rfl 44 _ _ false rfl _ _ _ rfl rfl (HLK.out _) ?_))
                                 go_loopw [18, 23] (fun bn i wr => ∃ j m : Nat, j ≤ words ∧ i = .int .i64 j ∧ bn = .int .i64 ((firstSum (rowBits words hs no l0) hs k8 + rowBits j hs no l0 (hs k8) : Nat) : Int) ∧ wr = w3.drewN m) (fun _ i _ => words - (intOf i).toNat)
                                 case atStart => exact ⟨0, _, Nat.zero_le _, rfl, rfl, rfl⟩
                                 case round =>
                                   obtain ⟨j10, m10, hj10, rfl, rfl, rfl⟩ := hrel
                                   by_cases hlt10 : j10 < words
                                   · have hgot := HROW.out.cell hlt10
                                     rw [scriptZ_nat] at hgot
                                     have hrl := rowBits_le (j10 + 1) hs no l0 (hs k8)
                                     have HRS := rowBits_succ j10 hs no l0 (hs k8)
                                     obtain ⟨T, hT⟩ : ∃ T, T = firstSum (rowBits words hs no l0) hs k8 + rowBits (j10 + 1) hs no l0 (hs k8) := ⟨_, rfl⟩
                                     have HT : Hid (T = firstSum (rowBits words hs no l0) hs k8 + rowBits (j10 + 1) hs no l0 (hs k8)) := hT
                                     have hTl : T ≤ 4259840 := by omega
                                     have HX : Hid (firstSum (rowBits words hs no l0) hs k8 + rowBits j10 hs no l0 (hs k8) + pcf 64 (scriptN hs no l0 (hs k8) j10) = T) := by show _ = _; omega
                                     have hbl : firstSum (rowBits words hs no l0) hs k8 + rowBits j10 hs no l0 (hs k8) ≤ T := by omega
                                     have HLT := scriptN_lt (hs := hs) (no := no) (hs k8) j10 l0
                                     have HLT' : Hid (scriptN hs no l0 (hs k8) j10 < 2 ^ 64) := HLT
                                     clear HLT hT HRS hrl
                                     go_wp2
                                     go_loop [18, 24] (fun bn x => ∃ b y : Nat, bn = .int .i64 b ∧ x = .int .u64 y ∧ b ≤ T ∧ Hid (y < 2 ^ 64) ∧ Hid (b + pcf 64 y = T)) (fun _ x => (intOf x).toNat)
                                     case atStart => exact ⟨_, _, rfl, rfl, hbl, HLT', HX⟩
                                     case round =>
                                       obtain ⟨b11, y11, rfl, rfl, hbT, HY, HS⟩ := hrel
                                       cases hx : (((y11 : Nat) : Int) != 0)
                                       · go_wp2
                                         go_roundw
                                         case rel => exact ⟨j10 + 1, _, hlt10, by go_num, by
                                           have e0 : y11 = 0 := by have := bne_eq_false_iff_eq.1 hx; omega
                                           have := HS.out
                                           rw [e0, pcf_zero, Nat.add_zero] at this
                                           rw [this, HT.out], rfl⟩
                                         case measure => simp [intOf]; omega
                                       · have hy0 : y11 ≠ 0 := by have := bne_iff_ne.1 hx; omega
                                         have hst := pcf_strike 64 y11 hy0 HY.out
                                         have hsl := strike_lt y11 hy0
                                         have HST : Hid (pcf 64 (y11 &&& (y11 - 1)) + 1 = pcf 64 y11) := hst
                                         have HSL : Hid (y11 &&& (y11 - 1) < y11) := hsl
                                         have hbT' : b11 + 1 ≤ T := by have := HS.out; omega
                                         have hwr : IntKind.u64.wrap (((y11 : Nat) : Int) - 1) = ((y11 : Nat) : Int) - 1 := by rw [IntKind.wrap_u64]; have := HY.out; omega
                                         have hband := and_pred y11 hy0 HY.out
                                         clear hst hsl
                                         go_wp2
                                         go_round
                                         case rel => exact ⟨b11 + 1, y11 &&& (y11 - 1), by go_num, rfl, hbT', Nat.lt_trans HSL.out HY.out, by show _ = _; have := HST.out; have := HS.out; omega⟩
                                         case measure => simp only [intOf, Int.toNat_natCast]; exact HSL.out
                                   · go_wp2
                                     go_roundw
                                     case rel => exact ⟨k8 + 1, _, hlt8, by go_num, by rw [keysN_succ, if_pos HFB.out]; go_num, by rw [firstSum_succ, if_pos HFB.out, show j10 = words from by omega], rfl⟩
                                     case measure => simp [intOf]; omega)
                        · have e8 : k8 = l0 := by omega
                          have e6 : k6 = l0 := by omega
                          have HLEN : Hid ((keysTo hs l0).length = keysN hs k8) := by show _ = _; rw [e8]; exact length_keysN hs l0
                          have hd2 : (((firstSum (rowBits words hs no l0) hs k8 : Nat) : Int) == ((pairsTo hs no k6 : Nat) : Int)) = true := by
                            rw [e8, e6, ← firstSum_keys, bits_pairs fun i hi => (HNO.out i hi).2]
                            exact beq_iff_eq.2 rfl
                          have HR6 : Hid (∀ m, Rec (w3.drewN m) w'.heap.size w'.heap.size l0 words (keysTo hs l0) (scriptZ hs no l0)) := fun m => ⟨D, g, HRO.out.kept rfl (fun _ _ => rfl)⟩
                          have HFIN : Hid (∀ m, RetT w (.returned (.bool true)) (w3.drewN m)) := fun m => ⟨rfl, (HB0.out.trans (HBEL.out.mono (by omega))).trans (below_drewN (Below.refl _ _) m)⟩
                          clear e8 e6
                          go_wp2_with (first | (refine wl_len rfl (.tmp 212) rfl rfl (HR6.out _) _ HLEN.out ?_))
                          go_ret
                          exact HFIN.out _

end Go.Proofs.Qxb6602710a
