/-
  Seat b6602792a: the walk of FnWalkerStrSkipsAnEscapedString (6).
-/
import Derived.Test.Qxb6602792aEsc
namespace Go.Proofs.Qxb6602792a
open Go.ChangeShapes Go.WideShapes Go.ChangeAt Go.RowKit

set_option maxRecDepth 100000 in
set_option maxHeartbeats 4000000 in
theorem walk6 (a0 : Option Addr) (l0 c0 : Nat) (D0 : Nat → Int) (a1 : Option Addr) (l1 c1 : Nat) (D1 : Nat → Int) (a2 : Option Addr) (l2 c2 : Nat) (D2 : Nat → Int) (w : World)
    (h0 : In w a0 l0 D0) (h1 : In w a1 l1 D1) (h2 : In w a2 l2 D2) (hl0 : l0 ≤ maxLen) (hl1 : l1 ≤ maxLen) (hl2 : l2 ≤ maxLen) :
    Calls Try.prog 6 #[.slice a0 l0 c0, .slice a1 l1 c1, .slice a2 l2 c2] w fun e w' => e = .returned (.bool true) ∧ Below w.heap.size w w' := by
  have HC := bytes18 a0 l0 c0 a1 l1 c1 a2 l2 c2 w hl0 hl1 hl2
  have H0 : Hid (In w a0 l0 D0) := h0
  have H1 : Hid (In w a1 l1 D1) := h1
  have H2 : Hid (In w a2 l2 D2) := h2
  clear h0 h1 h2
  unfold maxLen at hl0 hl1 hl2
  obtain ⟨i0, hi, hz0, hz1, hz2⟩ := info_parts info5
  obtain ⟨C, hC, hC'⟩ : ∃ C, C ≤ l0 + 2 * l1 + 2 + l2 ∧ l0 + 2 * l1 + 2 + l2 ≤ C := ⟨_, Nat.le_refl _, Nat.le_refl _⟩
  go_enter Try.func6, Try.ntmps6
  go_wp2_with (go_at_call 18; refine HC.mono ?_)
  rintro e w1 ⟨r, rfl, rfl⟩
  clear HC
  cases r
  · go_wp2
    go_ret
    exact ⟨rfl, Below.refl _ _⟩
  by_cases g0 : (262144 : Int) < (l0 : Int)
  · have d0 := decide_eq_true g0
    go_wp2
    go_ret
    exact ⟨rfl, Below.refl _ _⟩
  by_cases g1 : (262144 : Int) < (l1 : Int)
  · have d0 := decide_eq_false g0
    have d1 := decide_eq_true g1
    go_wp2
    go_ret
    exact ⟨rfl, Below.refl _ _⟩
  by_cases g2 : (262144 : Int) < (l2 : Int)
  · have d0 := decide_eq_false g0
    have d1 := decide_eq_false g1
    have d2 := decide_eq_true g2
    go_wp2
    go_ret
    exact ⟨rfl, Below.refl _ _⟩
  have d0 := decide_eq_false g0
  have d1 := decide_eq_false g1
  have d2 := decide_eq_false g2
  go_wp2_with (at_make; refine wpList_make_own _ rfl _ _ 32 rfl w1.heap.size 5 i0 (.int .u8 0) 1 Try.underlying32 hi hz0 hz1 _ _ _ C rfl rfl (by omega) (by rw [hz2]; omega) (by unfold maxLen; omega) (Nat.le_refl _) ?_)
  intro w2 hown2 hgrow2
  have hbuf : Hid (Buf w1 w2 C 0 []) := ⟨hown2, (Below.refl _ _).grown hgrow2 (Nat.le_refl _) (by simp)⟩
  clear hown2 hgrow2
  go_wp2
  -- the bytes ahead
  go_loopw [7, 8] (fun v kv wr => ∃ k : Nat, k ≤ l0 ∧ v = .slice (some ⟨w1.heap.size, 0, none⟩) k C ∧ kv = .int .i64 k ∧ Hid (Buf w1 wr C k (lst D0 k))) (fun _ kv _ => l0 - (intOf kv).toNat)
  case atStart => exact ⟨0, Nat.zero_le _, rfl, rfl, hbuf⟩
  case round =>
    obtain ⟨k, hk, rfl, rfl, HB⟩ := hrel
    by_cases hlt : k < l0
    · obtain ⟨b, o, rfl, hb, hc⟩ := H0.out (by omega)
      have hcell : wr.cell? ⟨b, o + k, none⟩ = some (.int .u8 (D0 k)) := HB.out.in_ hb (hc k hlt)
      have HK : Hid (lst D0 (k + 1) = lst D0 k ++ [D0 k]) := lst_succ D0 k
      clear hc
      go_wp2_with (at_builtin; refine wpList_append_fits _ rfl (.tmp 47) (.tmp 52) 32 rfl w1.heap.size 5 i0 1 Try.underlying32 hi hz1 w1.heap.size k C _ rfl (HB.out.1.alloc _) ⟨wr.heap.size, 0, none⟩ 1 1 [.int .u8 (D0 k)] rfl rfl (cell_one_new _ _ _) (ints_oneCell .u8 [D0 k]) (by omega) ?_; intro w4 hown4 hgrow4)
      go_roundw
      case rel => exact ⟨k + 1, by omega, rfl, rfl, by rw [HK.out]; exact HB.out.push hown4 hgrow4⟩
      case measure => simp [intOf]; omega
    · have HE : Hid (k = l0) := by show k = l0; omega
      go_wp2_with (at_builtin; refine wpList_append_fits _ rfl (.tmp 54) (.tmp 55) 32 rfl w1.heap.size 5 i0 1 Try.underlying32 hi hz1 w1.heap.size k C _ rfl (HB.out.1.alloc _) ⟨wr.heap.size, 0, none⟩ 1 1 [.int .u8 34] rfl rfl (cell_one_new _ _ _) (ints_oneCell .u8 [34]) (by omega) ?_; intro w4 hown4 hgrow4)
      have hbuf2 : Hid (Buf w1 w4 C (k + 1) (lst D0 l0 ++ [34])) := by rw [← HE.out]; exact HB.out.push hown4 hgrow4
      clear hown4 hgrow4 HB hbuf
      have hkl : k ≤ l0 ∧ l0 ≤ k := by omega
      -- the escaped bytes
      go_loopw [7, 9] (fun v kv wr => ∃ t m : Nat, t ≤ l1 ∧ m ≤ l0 + 1 + 2 * t ∧ v = .slice (some ⟨w1.heap.size, 0, none⟩) m C ∧ kv = .int .i64 t ∧ Hid (m = l0 + 1 + elen D1 t) ∧ Hid (Buf w1 wr C m (lst D0 l0 ++ [34] ++ esc D1 t))) (fun _ kv _ => l1 - (intOf kv).toNat)
      case atStart => exact ⟨0, k + 1, Nat.zero_le _, by omega, rfl, rfl, by show k + 1 = _; rw [HE.out]; rfl, by simpa [esc] using hbuf2⟩
      case round =>
        revert wr
        intro w3 hrel
        obtain ⟨t, m, ht, hm, rfl, rfl, HM, HB⟩ := hrel
        by_cases hlt1 : t < l1
        · obtain ⟨b, o, rfl, hb, hc⟩ := H1.out (by omega)
          have hcell : w3.cell? ⟨b, o + t, none⟩ = some (.int .u8 (D1 t)) := HB.out.in_ hb (hc t hlt1)
          have HCI := hc t hlt1
          clear hc
          have HL : Hid (elen D1 (t + 1) = elen D1 t + if special (D1 t) then 2 else 1) := elen_succ D1 t
          have HS : Hid (esc D1 (t + 1) = esc D1 t ++ one (D1 t)) := rfl
          have HC5 : Hid (w1.cell? ⟨b, o + t, none⟩ = some (.int .u8 (D1 t))) := HCI
          cases e34 : (D1 t == 34)
          · cases e92 : (D1 t == 92)
            · have hsp : Hid (special (D1 t) = false) := by show (D1 t == 34 || D1 t == 92) = false; rw [e34, e92]; rfl
              go_wp2_with (at_builtin; refine wpList_append_fits _ rfl (.tmp 78) (.tmp 83) 32 rfl w1.heap.size 5 i0 1 Try.underlying32 hi hz1 w1.heap.size m C _ rfl (HB.out.1.alloc _) ⟨w3.heap.size, 0, none⟩ 1 1 [.int .u8 (D1 t)] rfl rfl (cell_one_new _ _ _) (ints_oneCell .u8 [D1 t]) (by omega) ?_; intro w4 hown4 hgrow4)
              go_roundw
              case rel =>
                refine ⟨t + 1, m + 1, by omega, by omega, rfl, rfl, ?_, ?_⟩
                · show m + 1 = _; rw [HL.out, hsp.out, HM.out]; rfl
                · rw [HS.out, one, hsp.out, ← List.append_assoc]; exact HB.out.push hown4 hgrow4
              case measure => simp [intOf]; omega
            · have hsp : Hid (special (D1 t) = true) := by show (D1 t == 34 || D1 t == 92) = true; rw [e34, e92]; rfl
              go_wp2_with (first
                | (at_builtin; refine wpList_append_fits _ rfl (.tmp 75) (.tmp 76) 32 rfl w1.heap.size 5 i0 1 Try.underlying32 hi hz1 w1.heap.size m C _ rfl (HB.out.1.alloc _) ⟨w3.heap.size, 0, none⟩ 1 1 [.int .u8 (92)] rfl rfl (cell_one_new _ _ _) (ints_oneCell .u8 [92]) (by omega) ?_; intro w4 hown4 hgrow4; have HB5 : Hid (Buf w1 w4 C (m + 1) (lst D0 l0 ++ [34] ++ esc D1 t ++ [92])) := HB.out.push hown4 hgrow4; have hcell5 : w4.cell? ⟨b, o + t, none⟩ = some (.int .u8 (D1 t)) := HB5.out.in_ hb (HC5.out))
                | (at_builtin; refine wpList_append_fits _ rfl (.tmp 78) (.tmp 83) 32 rfl w1.heap.size 5 i0 1 Try.underlying32 hi hz1 w1.heap.size (m + 1) C _ rfl (HB5.out.1.alloc _) ⟨w4.heap.size, 0, none⟩ 1 1 [.int .u8 (D1 t)] rfl rfl (cell_one_new _ _ _) (ints_oneCell .u8 [D1 t]) (by omega) ?_; intro w5 hown5 hgrow5))
              go_roundw
              case rel =>
                refine ⟨t + 1, m + 1 + 1, by omega, by omega, rfl, rfl, ?_, ?_⟩
                · show m + 1 + 1 = _; rw [HL.out, hsp.out, HM.out]; rfl
                · rw [HS.out, one, hsp.out]; have h5 := HB5.out.push hown5 hgrow5; exact (by simpa using h5 : Buf w1 w5 C (m + 1 + 1) (lst D0 l0 ++ [34] ++ (esc D1 t ++ [92, D1 t])))
              case measure => simp [intOf]; omega
          · have hsp : Hid (special (D1 t) = true) := by show (D1 t == 34 || D1 t == 92) = true; rw [e34]; rfl
            go_wp2_with (first
                | (at_builtin; refine wpList_append_fits _ rfl (.tmp 75) (.tmp 76) 32 rfl w1.heap.size 5 i0 1 Try.underlying32 hi hz1 w1.heap.size m C _ rfl (HB.out.1.alloc _) ⟨w3.heap.size, 0, none⟩ 1 1 [.int .u8 (92)] rfl rfl (cell_one_new _ _ _) (ints_oneCell .u8 [92]) (by omega) ?_; intro w4 hown4 hgrow4; have HB5 : Hid (Buf w1 w4 C (m + 1) (lst D0 l0 ++ [34] ++ esc D1 t ++ [92])) := HB.out.push hown4 hgrow4; have hcell5 : w4.cell? ⟨b, o + t, none⟩ = some (.int .u8 (D1 t)) := HB5.out.in_ hb (HC5.out))
                | (at_builtin; refine wpList_append_fits _ rfl (.tmp 78) (.tmp 83) 32 rfl w1.heap.size 5 i0 1 Try.underlying32 hi hz1 w1.heap.size (m + 1) C _ rfl (HB5.out.1.alloc _) ⟨w4.heap.size, 0, none⟩ 1 1 [.int .u8 (D1 t)] rfl rfl (cell_one_new _ _ _) (ints_oneCell .u8 [D1 t]) (by omega) ?_; intro w5 hown5 hgrow5))
            go_roundw
            case rel =>
                refine ⟨t + 1, m + 1 + 1, by omega, by omega, rfl, rfl, ?_, ?_⟩
                · show m + 1 + 1 = _; rw [HL.out, hsp.out, HM.out]; rfl
                · rw [HS.out, one, hsp.out]; have h5 := HB5.out.push hown5 hgrow5; exact (by simpa using h5 : Buf w1 w5 C (m + 1 + 1) (lst D0 l0 ++ [34] ++ (esc D1 t ++ [92, D1 t])))
            case measure => simp [intOf]; omega
        · have HE1 : Hid (t = l1) := by show t = l1; omega
          go_wp2_with (at_builtin; refine wpList_append_fits _ rfl (.tmp 85) (.tmp 86) 32 rfl w1.heap.size 5 i0 1 Try.underlying32 hi hz1 w1.heap.size m C _ rfl (HB.out.1.alloc _) ⟨w3.heap.size, 0, none⟩ 1 1 [.int .u8 (34)] rfl rfl (cell_one_new _ _ _) (ints_oneCell .u8 [34]) (by omega) ?_; intro w4 hown4 hgrow4)
          have hbuf3 : Hid (Buf w1 w4 C (m + 1) (text D0 D1 D2 l0 l1 0)) := by
            have := HB.out.push hown4 hgrow4
            show Buf w1 w4 C (m + 1) (text D0 D1 D2 l0 l1 0)
            rw [← HE1.out]; simpa [text, lst] using this
          clear hown4 hgrow4 HB
          -- the bytes behind
          go_loopw [7, 11] (fun v kv wr => ∃ q m' : Nat, q ≤ l2 ∧ m' ≤ m + 1 + q ∧ m + 1 + q ≤ m' ∧ v = .slice (some ⟨w1.heap.size, 0, none⟩) m' C ∧ kv = .int .i64 q ∧ Hid (Buf w1 wr C m' (text D0 D1 D2 l0 l1 q))) (fun _ kv _ => l2 - (intOf kv).toNat)
          case atStart => exact ⟨0, m + 1, Nat.zero_le _, by omega, by omega, rfl, rfl, hbuf3⟩
          case round =>
            revert wr
            intro w5 hrel
            obtain ⟨q, m', hq, hm1, hm2, rfl, rfl, HB⟩ := hrel
            by_cases hlt2 : q < l2
            · obtain ⟨b, o, rfl, hb, hc⟩ := H2.out (by omega)
              have hcell : w5.cell? ⟨b, o + q, none⟩ = some (.int .u8 (D2 q)) := HB.out.in_ hb (hc q hlt2)
              clear hc
              have HT : Hid (text D0 D1 D2 l0 l1 (q + 1) = text D0 D1 D2 l0 l1 q ++ [D2 q]) := by show text _ _ _ _ _ _ = _; unfold text; rw [lst_succ]; simp
              go_wp2_with (at_builtin; refine wpList_append_fits _ rfl (.tmp 96) (.tmp 101) 32 rfl w1.heap.size 5 i0 1 Try.underlying32 hi hz1 w1.heap.size m' C _ rfl (HB.out.1.alloc _) ⟨w5.heap.size, 0, none⟩ 1 1 [.int .u8 (D2 q)] rfl rfl (cell_one_new _ _ _) (ints_oneCell .u8 [D2 q]) (by omega) ?_; intro w4 hown4 hgrow4)
              go_roundw
              case rel => exact ⟨q + 1, m' + 1, by omega, by omega, by omega, rfl, rfl, by rw [HT.out]; exact HB.out.push hown4 hgrow4⟩
              case measure => simp [intOf]; omega
            · have HE2 : Hid (q = l2) := by show q = l2; omega
              have hE : m ≤ l0 + 1 + elen D1 l1 ∧ l0 + 1 + elen D1 l1 ≤ m := by rw [← HE1.out, HM.out]; omega
              have HZ : Hid (Calls Try.prog 17 #[.slice (some ⟨w1.heap.size, 0, none⟩) m' C, .int .i64 l0] w5 fun e w' => e = .returned (.int .i64 ((m : Int) + 1)) ∧ Below w5.heap.size w5 w') := by
                have hmE : m = l0 + 1 + elen D1 l1 := by omega
                rw [hmE]
                exact zstr17 w1.heap.size 0 m' C l0 (l0 + 1 + elen D1 l1) (fun j => (text D0 D1 D2 l0 l1 q).getD j 0) (Stand D1 l0 l1) w5 (by omega) HB.out.size HB.out.cells (by omega) (by omega) (stand_start D1 l0 l1) (stand_le D1 l0 l1) (text_quote D0 D1 D2 l0 l1 q) (stand_step D0 D1 D2 l0 l1 q)
              clear hE
              go_wp2_with (go_at_call 17; refine HZ.out.mono ?_)
              rintro e w6 ⟨rfl, hbel⟩
              have hbelow : Below w1.heap.size w1 w6 := HB.out.2.trans (hbel.mono (Nat.le_of_lt HB.out.size))
              have HBL : Hid (Below w1.heap.size w1 w6) := hbelow
              clear hbelow hbel
              go_wp2
              go_ret
              exact ⟨rfl, HBL.out⟩

end Go.Proofs.Qxb6602792a
