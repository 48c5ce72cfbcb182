/-
  Seat b6602710a: 'Rows.FnLongestAppendOneSaid' PROVED.
-/
import Derived.Test.Qxb6602710aWatch
import Derived.Test.Qxb6602710aBytes
namespace Go.Proofs.Qxb6602710a.fnLongestAppendOne
open Go.ChangeShapes Go.WideShapes Go.ChangeAt Go.RowKit
set_option linter.unusedVariables false

/-- It answers true, and nothing that was there has turned. -/
def RetTrue (w : World) (e : Ending) (w' : World) : Prop := e = .returned (.bool true) ∧ Below w.heap.size w w'

/-! ### The plain law -/
theorem longIdx_congr {f g : Nat → Int} : ∀ {n : Nat}, (∀ i, i < n → f i = g i) → longIdx f n = longIdx g n
  | 0, _ => rfl
  | n + 1, h => by
    have ih := longIdx_congr (f := f) (g := g) (n := n) fun i hi => h i (Nat.lt_succ_of_lt hi)
    have hl := longIdx_le g n
    show (if f (longIdx f n) < f n then n else longIdx f n) = (if g (longIdx g n) < g n then n else longIdx g n)
    rw [ih, h n (Nat.lt_succ_self n), h (longIdx g n) (by omega)]
/-- The first n as they were; behind them x. -/
def snoc {α : Type} (f : Nat → α) (n : Nat) (x : α) (i : Nat) : α := if i < n then f i else x
theorem snoc_lt {α : Type} {f : Nat → α} {n : Nat} {x : α} {i : Nat} (h : i < n) : snoc f n x i = f i := by unfold snoc; rw [if_pos h]
theorem snoc_at {α : Type} {f : Nat → α} {n : Nat} {x : α} : snoc f n x n = x := by unfold snoc; rw [if_neg (Nat.lt_irrefl _)]
theorem long_snoc {ht : Nat → Int} {n : Nat} {x : Int} (hn : 0 < n) : longIdx (snoc ht n x) (n + 1) = if ht (longIdx ht n) < x then n else longIdx ht n := by
  have e : longIdx (snoc ht n x) n = longIdx ht n := longIdx_congr fun i hi => snoc_lt hi
  show (if snoc ht n x (longIdx (snoc ht n x) n) < snoc ht n x n then n else longIdx (snoc ht n x) n) = _
  rw [e, snoc_at, snoc_lt (longIdx_lt ht n hn)]

theorem isHashes_below {w w' : World} {a : Option Addr} {n : Nat} {hs : Nat → List Int} (h : IsHashes w a n hs) (hb : Below w.heap.size w w') : IsHashes w' a n hs := by
  refine ⟨h.1, ?_⟩
  rcases h.2 with h0 | ⟨b, o, e, hlt, hc⟩
  · exact .inl h0
  · exact .inr ⟨b, o, e, Nat.lt_of_lt_of_le hlt hb.size, fun i hi q v hv => by rw [hb.cell (p := ⟨b, o + i * 32 + q, none⟩) hlt]; exact hc i hi q v hv⟩
theorem isCells_below {w w' : World} {a : Option Addr} {n : Nat} {V : Nat → Value} (h : IsCells w a n V) (hb : Below w.heap.size w w') : IsCells w' a n V := by
  rcases h with h0 | ⟨b, o, e, hlt, hc⟩
  · exact .inl h0
  · exact .inr ⟨b, o, e, Nat.lt_of_lt_of_le hlt hb.size, fun i hi => by rw [hb.cell (p := ⟨b, o + i, none⟩) hlt]; exact hc i hi⟩

/-! ### The walk -/
set_option maxRecDepth 1000000 in
set_option maxHeartbeats 1000000 in
theorem walk_early (a0 : Option Addr) (l0 c0 : Nat) (a1 : Option Addr) (l1 c1 : Nat) (a2 : Option Addr) (l2 c2 : Nat) (X : List Int) (x : Int) (y : Bool) (w : World) (hX : Hash X) (hl0 : l0 ≤ maxLen) (hl1 : l1 ≤ maxLen) (hl2 : l2 ≤ maxLen)
    (hbad : l0 ≠ l1 ∨ (l0 = l1 ∧ l2 ≠ l1) ∨ 4096 < l1) :
    Calls Try.prog 4 #[.slice a0 l0 c0, .slice a1 l1 c1, .slice a2 l2 c2, .agg (hcs X).toArray, .int .i64 x, .bool y] w (RetTrue w) := by
  have HC : Hid ((w.alloc (Obj.cells (hcs X).toArray 29)).rangeAt w.heap.size 0 (hcs X)) := range_box w X 29
  have HK : Hid (Calls Try.prog 13 #[.slice a0 l0 c0, .slice a1 l1 c1, .slice a2 l2 c2, .agg (hcs X).toArray, .int .i64 x, .bool y] (w.alloc (Obj.cells (hcs X).toArray 29)) (RetB (w.alloc (Obj.cells (hcs X).toArray 29)))) := bytes13 a0 l0 c0 a1 l1 c1 a2 l2 c2 _ x y _ hl0 hl1 hl2
  unfold maxLen at hl0 hl1 hl2
  rcases hbad with hne | ⟨rfl, hne⟩ | hne
  · have hd : ((l0 : Int) != (l1 : Int)) = true := by rw [bne_iff_ne]; omega
    go_enter Try.func4, Try.ntmps4
    go_wp2_with (first | (refine wl_load rfl 29 ht29 (.tmp 9) rfl _ _ rfl X hX.1 HC.out ?_) | (go_at_call 13; refine HK.out.mono ?_))
    rintro e w' ⟨r, rfl, hB⟩
    have HD : Hid (RetTrue w (.returned (.bool true)) w') := ⟨rfl, ((Below.refl _ _).alloc (Nat.le_refl _) _).trans (hB.mono (by simp))⟩
    clear hB HK HC
    cases r
    all_goals
      go_wp2
      all_goals (go_ret; exact HD.out)
  · have hd : ((l2 : Int) != (l0 : Int)) = true := by rw [bne_iff_ne]; omega
    have hd0 : ((l0 : Int) != (l0 : Int)) = false := by simp
    go_enter Try.func4, Try.ntmps4
    go_wp2_with (first | (refine wl_load rfl 29 ht29 (.tmp 9) rfl _ _ rfl X hX.1 HC.out ?_) | (go_at_call 13; refine HK.out.mono ?_))
    rintro e w' ⟨r, rfl, hB⟩
    have HD : Hid (RetTrue w (.returned (.bool true)) w') := ⟨rfl, ((Below.refl _ _).alloc (Nat.le_refl _) _).trans (hB.mono (by simp))⟩
    clear hB HK HC
    cases r
    all_goals
      go_wp2
      all_goals (go_ret; exact HD.out)
  · have hne' : 4096 < (l1 : Int) := by omega
    go_enter Try.func4, Try.ntmps4
    go_wp2_with (first | (refine wl_load rfl 29 ht29 (.tmp 9) rfl _ _ rfl X hX.1 HC.out ?_) | (go_at_call 13; refine HK.out.mono ?_))
    rintro e w' ⟨r, rfl, hB⟩
    have HD : Hid (RetTrue w (.returned (.bool true)) w') := ⟨rfl, ((Below.refl _ _).alloc (Nat.le_refl _) _).trans (hB.mono (by simp))⟩
    clear hB HK HC
    cases r
    all_goals
      go_wp2
      all_goals (go_ret; exact HD.out)

set_option maxRecDepth 1000000 in
set_option maxHeartbeats 2000000 in
theorem walk_main (a0 : Option Addr) (n c0 : Nat) (a1 : Option Addr) (c1 : Nat) (a2 : Option Addr) (c2 : Nat) (hs : Nat → List Int) (ht : Nat → Int) (rv : Nat → Bool) (X : List Int) (x : Int) (y : Bool) (w : World) (hX : Hash X) (h4 : n ≤ 4096)
    (hK : IsHashes w a0 n hs) (h1 : IsCells w a1 n fun i => .int .i64 (ht i)) (h2 : IsCells w a2 n fun i => .bool (rv i)) :
    Calls Try.prog 4 #[.slice a0 n c0, .slice a1 n c1, .slice a2 n c2, .agg (hcs X).toArray, .int .i64 x, .bool y] w (RetTrue w) := by
  have HC : Hid ((w.alloc (Obj.cells (hcs X).toArray 29)).rangeAt w.heap.size 0 (hcs X)) := range_box w X 29
  have HK13 : Hid (Calls Try.prog 13 #[.slice a0 n c0, .slice a1 n c1, .slice a2 n c2, .agg (hcs X).toArray, .int .i64 x, .bool y] (w.alloc (Obj.cells (hcs X).toArray 29)) (RetB (w.alloc (Obj.cells (hcs X).toArray 29)))) :=
    bytes13 a0 n c0 a1 n c1 a2 n c2 _ x y _ (by unfold maxLen; omega) (by unfold maxLen; omega) (by unfold maxLen; omega)
  have HKH : Hid (IsHashes w a0 n hs) := hK
  have HK1 : Hid (IsCells w a1 n fun i => .int .i64 (ht i)) := h1
  have HK2 : Hid (IsCells w a2 n fun i => .bool (rv i)) := h2
  clear hK h2
  have hd0 : ((n : Int) != (n : Int)) = false := by simp
  obtain ⟨C, hC, hmk⟩ := make27 (n + 1) (by omega)
  simp only [Int.natCast_add, Int.natCast_one] at hmk
  have HCS : Hid (C.size = (n + 1) * 34) := hC
  clear hC
  rcases h1 with h1 | ⟨b1, o1, rfl, hb1, hc1⟩
  all_goals
    go_enter Try.func4, Try.ntmps4
    go_wp2_with (first | (refine wl_load rfl 29 ht29 (.tmp 9) rfl _ _ rfl X hX.1 HC.out ?_) | (go_at_call 13; refine HK13.out.mono ?_))
    rintro e w' ⟨r, rfl, hB⟩
    have HB : Hid (Below w.heap.size w w') := ((Below.refl _ _).alloc (Nat.le_refl _) _).trans (hB.mono (by simp))
    have HCw : Hid (w'.rangeAt w.heap.size 0 (hcs X)) := fun q v hv => by
      rw [hB.cell (p := ⟨w.heap.size, 0 + q, none⟩) (by simp)]; exact HC.out q v hv
    have hsz : w.heap.size < w'.heap.size := by have := hB.size; simp at this; omega
    clear hB HK13 HC
    cases r
    · go_wp2
      go_ret
      exact ⟨rfl, HB.out⟩
    · have HK12 : Hid (Calls Try.prog 12 #[.slice _ n c0, .slice _ n c1, .slice _ n c2] w' (Watches w' n hs ht rv)) := watches _ c0 _ c1 _ c2 n hs ht rv w' h4 (isHashes_below HKH.out HB.out) (isCells_below HK1.out HB.out) (isCells_below HK2.out HB.out)
      go_wp2_with (go_at_call 12; refine HK12.out.mono ?_)
      rintro e w2 ⟨R, rfl, hR1, hR2, hrow, hB2⟩
      have HK11 : Hid (Calls Try.prog 11 #[.slice (some ⟨R, 0, none⟩) n n] w2 (RetI w2 (longIdx ht n))) := longest11 R n n hs ht rv w2 (by omega) hR2 (fun i hi => (HKH.out.1 i hi).1) hrow
      have HROW : Hid (WatchRow w2 R n hs ht rv) := hrow
      have HB2 : Hid (Below w'.heap.size w' w2) := hB2
      have hsz2 : w'.heap.size ≤ w2.heap.size := hB2.size
      clear hrow hB2 HK12
      go_wp2_with (go_at_call 11; refine HK11.out.mono ?_)
      rintro e w3 ⟨rfl, hB3⟩
      have HB3 : Hid (Below w2.heap.size w2 w3) := hB3
      have hsz3 : w2.heap.size ≤ w3.heap.size := hB3.size
      clear hB3 HK11
      have hil := longIdx_le ht n
      go_wp2
      clear hmk
      go_loopw [17] (fun i wr => ∃ k : Nat, k ≤ n ∧ i = .int .i64 k ∧ WatchRow wr w3.heap.size k hs ht rv ∧ wr.there w3.heap.size 0 ((n + 1) * 34) ∧ Below w3.heap.size w3 wr ∧ w3.heap.size < wr.heap.size) (fun i _ => n - (intOf i).toNat)
      case atStart => exact ⟨0, Nat.zero_le _, rfl, fun i hi => absurd hi (Nat.not_lt_zero _), there_new w3 C 33 0 ((n + 1) * 34) (by rw [HCS.out]; omega), (Below.refl _ _).alloc (Nat.le_refl _) _, by simp⟩
      case round =>
        obtain ⟨k, hk, rfl, hrow, hthere, hbel, hlt0⟩ := hrel
        have HRW : Hid (WatchRow wr w3.heap.size k hs ht rv) := hrow
        have HTH : Hid (wr.there w3.heap.size 0 ((n + 1) * 34)) := hthere
        have HBEL : Hid (Below w3.heap.size w3 wr) := hbel
        clear hrow hthere hbel
        by_cases hlt : k < n
        · first
          | (exfalso; omega)
          | (have HHK : Hid ((hs k).length = 32) := (HKH.out.1 k hlt).1
             have HRK : Hid (wr.rangeAt R (k * 34) (wcs (hs k) (ht k) (rv k))) := fun q v hv => by
               rw [HBEL.out.cell (p := ⟨R, k * 34 + q, none⟩) (by show R < _; omega), HB3.out.cell (p := ⟨R, k * 34 + q, none⟩) hR2]
               exact HROW.out k hlt q v hv
             have HTK : Hid (wr.there w3.heap.size (k * 34) 34) := fun j hj => by have := HTH.out (k * 34 + j) (by omega); simpa using this
             go_wp2_with (first | (refine wl_load33 rfl (.tmp 68) rfl _ _ rfl (wcs (hs k) (ht k) (rv k)) (wcs_length HHK.out _ _) HRK.out ?_) | (refine wl_store33 rfl (.tmp 70) (.tmp 69) rfl _ _ rfl (wcs (hs k) (ht k) (rv k)) rfl (wcs_length HHK.out _ _) (wcs_oneCell _ _ _) HTK.out ?_))
             go_roundw
             case rel => exact ⟨k + 1, by omega, by go_num, fun i hi => by
                 rcases Nat.lt_succ_iff_lt_or_eq.1 hi with h | rfl
                 · exact World.rangeAt_setCells_apart (HRW.out i h) _ _ _ (by rw [wcs_length (HKH.out.1 i (by omega)).1, wcs_length HHK.out]; omega)
                 · exact World.rangeAt_setCells_same _ _ _ _ (by rw [wcs_length HHK.out]; exact HTK.out),
               World.there_setCells HTH.out _ _ _, below_setCells HBEL.out (Nat.le_refl _) _ _, by rw [size_setCells]; omega⟩
             case measure => simp [intOf]; omega)
        · have HCX : Hid (wr.rangeAt w.heap.size 0 (hcs X)) := fun q v hv => by
            rw [HBEL.out.cell (p := ⟨w.heap.size, 0 + q, none⟩) (by show w.heap.size < _; omega), HB3.out.cell (p := ⟨w.heap.size, 0 + q, none⟩) (by show w.heap.size < _; omega), HB2.out.cell (p := ⟨w.heap.size, 0 + q, none⟩) hsz]
            exact HCw.out q v hv
          go_wp2_with (first | (refine wl_load rfl 29 ht29 (.tmp 9) rfl _ _ rfl X hX.1 HCX.out ?_) | (go_at_call 14; refine (make14 X hX x y _).mono ?_))
          rintro e w5 ⟨rfl, hB5⟩
          have hsz5 : wr.heap.size ≤ w5.heap.size := hB5.size
          have HTN : Hid (w5.there w3.heap.size (n * 34) 34) := fun j hj => by
            rw [hB5.cell (p := ⟨w3.heap.size, n * 34 + j, none⟩) hlt0, hB5.frozen (p := ⟨w3.heap.size, n * 34 + j, none⟩) hlt0]
            have := HTH.out (n * 34 + j) (by omega); simpa using this
          have HB5 : Hid (Below wr.heap.size wr w5) := hB5
          clear hB5
          have HEXT : Hid (WatchRow (w5.setCells w3.heap.size (n * 34) (wcs X x y)) w3.heap.size (n + 1) (snoc hs n X) (snoc ht n x) (snoc rv n y)) := fun i hi => by
            rcases Nat.lt_succ_iff_lt_or_eq.1 hi with h | rfl
            · rw [snoc_lt h, snoc_lt h, snoc_lt h]
              refine World.rangeAt_setCells_apart (fun q v hv => ?_) _ _ _ (by rw [wcs_length (HKH.out.1 i (by omega)).1, wcs_length hX.1]; omega)
              rw [HB5.out.cell (p := ⟨w3.heap.size, i * 34 + q, none⟩) hlt0]
              exact HRW.out i (by omega) q v hv
            · rw [snoc_at, snoc_at, snoc_at]
              exact World.rangeAt_setCells_same _ _ _ _ (by rw [wcs_length hX.1]; exact HTN.out)
          have HBF : Hid (Below w.heap.size w (w5.setCells w3.heap.size (n * 34) (wcs X x y))) :=
            below_setCells (((HB.out.trans (HB2.out.mono (by omega))).trans (HB3.out.mono (by omega))).trans ((HBEL.out.mono (by omega)).trans (HB5.out.mono (by omega)))) (by omega) _ _
          have hz6 : w3.heap.size < (w5.setCells w3.heap.size (n * 34) (wcs X x y)).heap.size := by rw [size_setCells]; omega
          have HK11 : Hid (Calls Try.prog 11 #[.slice (some ⟨w3.heap.size, 0, none⟩) (n + 1) (n + 1)] (w5.setCells w3.heap.size (n * 34) (wcs X x y)) (RetI (w5.setCells w3.heap.size (n * 34) (wcs X x y)) (longIdx (snoc ht n x) (n + 1)))) :=
            longest11 _ (n + 1) (n + 1) _ _ _ _ (by omega) hz6 (fun i hi => by
              rcases Nat.lt_succ_iff_lt_or_eq.1 hi with h | rfl
              · rw [snoc_lt h]; exact (HKH.out.1 i h).1
              · rw [snoc_at]; exact hX.1) HEXT.out
          clear hz6
          go_wp2_with (first | (refine wl_store33 rfl (.tmp 77) (.tmp 76) rfl _ _ rfl (wcs X x y) rfl (wcs_length hX.1 _ _) (wcs_oneCell _ _ _) HTN.out ?_) | (go_at_call 11; refine HK11.out.mono ?_))
          rintro e w7 ⟨rfl, hB7⟩
          have HB7 : Hid (Below w.heap.size w w7) := HBF.out.trans (hB7.mono HBF.out.size)
          clear hB7 HK11 HEXT HBF
          by_cases h0 : n < 1
          · have hz : ((n : Int) == 0) = true := by rw [beq_iff_eq]; omega
            have hz2 : ((longIdx ht n : Int) == 0) = true := by rw [beq_iff_eq]; omega
            have hz3 : ((longIdx (snoc ht n x) (n + 1) : Int) == 0) = true := by
              rw [beq_iff_eq]
              have := longIdx_lt (snoc ht n x) (n + 1) (by omega)
              omega
            go_wp2
            go_ret
            exact ⟨rfl, HB7.out⟩
          · first
            | (exfalso; omega)
            | (have hz : ((n : Int) == 0) = false := by rw [beq_eq_false_iff_ne]; omega
               have hli := longIdx_lt ht n (by omega)
               have dz1 : decide ((longIdx ht n : Int) < 0) = false := decide_eq_false (by omega)
               have dz2 : decide ((n : Int) ≤ (longIdx ht n : Int)) = false := decide_eq_false (by omega)
               have hcg : w7.cell? ⟨b1, o1 + longIdx ht n, none⟩ = some (.int .i64 (ht (longIdx ht n))) := by
                 rw [HB7.out.cell (p := ⟨b1, o1 + longIdx ht n, none⟩) hb1]; exact hc1 _ hli
               have hi0 : (0 : Int) ≤ (longIdx ht n : Int) := Int.natCast_nonneg _
               have hi1 : (longIdx ht n : Int) < (n : Int) := by omega
               have hls := long_snoc (ht := ht) (n := n) (x := x) (by omega)
               by_cases hgt : ht (longIdx ht n) < x
               · rw [if_pos hgt] at hls
                 have dg := decide_eq_true hgt
                 have hfin : ((longIdx (snoc ht n x) (n + 1) : Int) == (n : Int)) = true := by rw [beq_iff_eq, hls]
                 clear hls
                 go_wp2
                 go_ret
                 exact ⟨rfl, HB7.out⟩
               · rw [if_neg hgt] at hls
                 have dg := decide_eq_false hgt
                 have hfin : ((longIdx (snoc ht n x) (n + 1) : Int) == (longIdx ht n : Int)) = true := by rw [beq_iff_eq, hls]
                 clear hls
                 go_wp2
                 go_ret
                 exact ⟨rfl, HB7.out⟩)

/-- The walk, whatever the input. -/
theorem walk (a0 : Option Addr) (l0 c0 : Nat) (a1 : Option Addr) (l1 c1 : Nat) (a2 : Option Addr) (l2 c2 : Nat) (hs : Nat → List Int) (ht : Nat → Int) (rv : Nat → Bool) (X : List Int) (x : Int) (y : Bool) (w : World) (hX : Hash X) (hl0 : l0 ≤ maxLen) (hl1 : l1 ≤ maxLen) (hl2 : l2 ≤ maxLen)
    (hK : IsHashes w a0 l0 hs) (h1 : IsCells w a1 l1 fun i => .int .i64 (ht i)) (h2 : IsCells w a2 l2 fun i => .bool (rv i)) :
    Calls Try.prog 4 #[.slice a0 l0 c0, .slice a1 l1 c1, .slice a2 l2 c2, .agg (hcs X).toArray, .int .i64 x, .bool y] w (RetTrue w) := by
  by_cases hg : l0 = l1 ∧ l2 = l1 ∧ l1 ≤ 4096
  · obtain ⟨rfl, rfl, h4⟩ := hg
    exact walk_main a0 l2 c0 a1 c1 a2 c2 hs ht rv X x y w hX h4 hK h1 h2
  · exact walk_early a0 l0 c0 a1 l1 c1 a2 l2 c2 X x y w hX hl0 hl1 hl2 (by omega)

set_option maxRecDepth 100000 in
theorem lifted (os : Os) (started : os.Started) (H : Type) (enc : TypeId × Value → H) :
    ReturnsInHanded {} Try.checked os 4 .any (Rows.fnLongestAppendOneSpec.pre6 enc Try.prog Try.f4 Rows.fnLongestAppendOneRow.domain false) (Rows.fnLongestAppendOneSpec.post enc Try.prog Try.f4 false true false false) := by
  refine returnsInHanded_of_change (C := Try.checked) Try.own started (by kernel_rfl) Try.func4
    (ChangeSpec.witness6 (enc := enc) (C := Try.checked) false ⟨#[], #[.slice none 0 0, .slice none 0 0, .slice none 0 0, .agg (hcs (List.replicate 32 0)).toArray, .int .i64 0, .bool false], []⟩ 8 (by kernel_rfl) (by kernel_rfl) (by kernel_rfl) (by kernel_rfl)) ?_
  intro W base args ds gs before hval0 hW hcnd _
  have hval : ∀ (j : Nat) t v, Try.f4.params[j]? = some t → args[j]? = some v → Value.okWide Try.prog W .any base t v := hval0
  have hW' := hW
  obtain ⟨p, q, hA0, hV, rfl, hfz, hnd⟩ := hW
  have hA : DataW.TrodAll enc Try.prog W 0 (fun _ => true) true Try.f4.params.toList args.toList ds p := hA0
  rw [Try.params4] at hA hval
  obtain ⟨v0, vs0, d0, ds0, p0, q0, hargs, rfl, rfl, h0, r0⟩ := trodAll_cons hA
  obtain ⟨v1, vs1, d1, ds1, p1, q1, rfl, rfl, rfl, h1, r1⟩ := trodAll_cons r0
  obtain ⟨v2, vs2, d2, ds2, p2, q2, rfl, rfl, rfl, h2, r2⟩ := trodAll_cons r1
  obtain ⟨v3, vs3, d3, ds3, p3, q3, rfl, rfl, rfl, h3, r3⟩ := trodAll_cons r2
  obtain ⟨v4, vs4, d4, ds4, p4, q4, rfl, rfl, rfl, h4, r4⟩ := trodAll_cons r3
  obtain ⟨v5, vs5, d5, ds5, p5, q5, rfl, rfl, rfl, h5, r5⟩ := trodAll_cons r4
  obtain ⟨rfl, rfl, rfl⟩ := trodAll_nil r5
  obtain rfl : args = #[v0, v1, v2, v3, v4, v5] := by cases args; simp_all
  obtain ⟨rfl, rfl⟩ := trodVars_none hV
  obtain ⟨a0, len0, cap0, rfl⟩ := okWide_slice Try.underlying22 (hval 0 22 v0 rfl rfl)
  have k0 := h0
  have lt0 : ∀ x ∈ p0, x.block < W.heap.size := by obtain ⟨m, hm⟩ := k0; exact DataW.trod_lt m _ _ _ hm
  obtain ⟨hl0, hs0, hK0⟩ : len0 ≤ maxLen ∧ ∃ hs, IsHashes W a0 len0 hs := by
    obtain ⟨fuel, hf⟩ := h0
    exact open_hashes hf
  obtain ⟨a1, len1, cap1, rfl⟩ := okWide_slice Try.underlying23 (hval 1 23 v1 rfl rfl)
  have k1 := h1
  have lt1 : ∀ x ∈ p1, x.block < W.heap.size := by obtain ⟨m, hm⟩ := k1; exact DataW.trod_lt m _ _ _ hm
  obtain ⟨hl1, nd1, hnb1, hK1⟩ : len1 ≤ maxLen ∧ ∃ nd : Nat → Int, (∀ i, i < len1 → -9223372036854775808 ≤ nd i ∧ nd i ≤ 9223372036854775807) ∧ IsCells W a1 len1 (fun i => .int .i64 (nd i)) := by
    obtain ⟨fuel, hf⟩ := h1
    exact open_nums hf
  obtain ⟨a2, len2, cap2, rfl⟩ := okWide_slice Try.underlying24 (hval 2 24 v2 rfl rfl)
  have k2 := h2
  have lt2 : ∀ x ∈ p2, x.block < W.heap.size := by obtain ⟨m, hm⟩ := k2; exact DataW.trod_lt m _ _ _ hm
  obtain ⟨hl2, rv2, hK2⟩ : len2 ≤ maxLen ∧ ∃ rv : Nat → Bool, IsCells W a2 len2 (fun i => .bool (rv i)) := by
    obtain ⟨fuel, hf⟩ := h2
    exact open_bools hf
  have k3 := h3
  have lt3 : ∀ x ∈ p3, x.block < W.heap.size := by obtain ⟨m, hm⟩ := k3; exact DataW.trod_lt m _ _ _ hm
  obtain ⟨z3, hz3, rfl⟩ := open_hash h3
  obtain ⟨a4, rfl, rfl, rfl, w4⟩ := open_int Try.underlying3 (hval 4 3 v4 rfl rfl) h4
  obtain ⟨a5, rfl, rfl, rfl⟩ := open_bool Try.underlying4 (hval 5 4 v5 rfl rfl) h5
  clear hA0 hval0
  refine (walk a0 len0 cap0 a1 len1 cap1 a2 len2 cap2 hs0 nd1 rv2 z3 a4 a5 W hz3 hl0 hl1 hl2 hK0 hK1 hK2).mono fun e W' ⟨he, bel⟩ => ?_
  subst he
  exact ⟨_, rfl, _, _, _, [], _, [], hW', trodAll_mk1 (shut_bool Try.underlying4 _), (trodAll_cons_mk (Below.trod Try.laidOut (by kernel_rfl) (of_decide_eq_true (by kernel_rfl)) k0 bel lt0) (trodAll_cons_mk (Below.trod Try.laidOut (by kernel_rfl) (of_decide_eq_true (by kernel_rfl)) k1 bel lt1) (trodAll_cons_mk (Below.trod Try.laidOut (by kernel_rfl) (of_decide_eq_true (by kernel_rfl)) k2 bel lt2) (trodAll_cons_mk (Below.trod Try.laidOut (by kernel_rfl) (of_decide_eq_true (by kernel_rfl)) k3 bel lt3) (trodAll_cons_mk (shut_int Try.underlying3 w4) (trodAll_cons_mk (shut_bool Try.underlying4 a5) trodAll_mk0)))))), rfl, bel.frame _, fun h => by cases h⟩

theorem over : Rows.fnLongestAppendOneRow.holds Try.pinned (OpenSpec.ofChange Rows.fnLongestAppendOneSpec) :=
  OpenClaim.holds_of_wide 4 Try.f4 rfl rfl rfl rfl rfl rfl rfl ⟨rfl, rfl, rfl, rfl, rfl⟩ rfl rfl rfl rfl rfl (by kernel_rfl) Try.func4 (by kernel_rfl)
    (of_decide_eq_true (by kernel_rfl)) (by unfold Func.isWrapper; first | (rw [if_pos (by decide +kernel)]; kernel_rfl) | (rw [if_neg (by decide +kernel)]; exact ⟨rfl, rfl⟩))
    (fun os started H enc _ => lifted os started H enc)

/-- ████ THE STATEMENT ████ -/
theorem proved : Rows.FnLongestAppendOneSaid := over
#print axioms proved
end Go.Proofs.Qxb6602710a.fnLongestAppendOne
