/-
  Seat b6602710a: 'FnForgottenAddExact' (8): the main way of the walk.
-/
import Derived.Test.Qxb6602710aEx1
import Derived.Test.Qxb6602710aPlain
import Derived.Deep.Slices
namespace Go.Proofs.Qxb6602710a
open Go.ChangeShapes Go.WideShapes Go.ChangeAt Go.RowKit

/-- From all rows' lengths: where each row lies. -/
theorem rows_lie {w : World} {n words : Nat} {A : Nat → Option Addr} {L : Nat → Nat} {vs : Nat → Nat → Int} (hrows : ∀ i, i < n → IsCells w (A i) (L i) fun j => .int .u64 (vs i j)) (hL : ∀ i, i < n → L i = words) (hw : 1 ≤ words) :
    ∃ AB AO : Nat → Nat, ∀ i, i < n → A i = some ⟨AB i, AO i, none⟩ ∧ AB i < w.heap.size ∧ ∀ j, j < words → w.cell? ⟨AB i, AO i + j, none⟩ = some (.int .u64 (vs i j)) := by
  obtain ⟨f, hf⟩ := Deep.choose_lt (α := Nat × Nat) (n := n) (p := fun i q => A i = some ⟨q.1, q.2, none⟩ ∧ q.1 < w.heap.size ∧ ∀ j, j < words → w.cell? ⟨q.1, q.2 + j, none⟩ = some (.int .u64 (vs i j))) (fun i hi => by
    rcases hrows i hi with h | ⟨b, o, h1, h2, h3⟩
    · rw [hL i hi] at h; omega
    · rw [hL i hi] at h3; exact ⟨(b, o), h1, h2, h3⟩)
  exact ⟨fun i => (f i).1, fun i => (f i).2, hf⟩

theorem run_makeMap_hint (n : Int) (w : World) : (Instr.makeMap 44 (some (.int .i64 n))).run Try.prog w = .ok (.map (some w.heap.size)) (w.alloc (.map #[] 0)) := by
  simp [Instr.makeMap, run_underlying Try.underlying44, asInt, asIntOf, newObj]
  rfl

theorem run_make43 (words : Nat) (hw : words ≤ 16384) (w : World) : (Instr.makeSlice 43 (.int .i64 words) (.int .i64 words)).run Try.prog w = .ok (.slice (some ⟨w.heap.size, 0, none⟩) words words) (w.alloc (.cells (madeCells #[.int .u64 0] words) 45)) :=
  run_make_row' 43 45 (.int .u64 0) 8 Try.underlying43 (by kernel_rfl) rfl .i64 .i64 words (by omega) (by omega) w

theorem got_is {hs : Nat → List Int} {vs : Nat → Nat → Int} {l0 k : Nat} {H : List Int} {node j : Nat} (hk : k < l0) (hl : rowsTo hs vs l0 (hs k) = vs k) :
    addZ (keysTo hs l0) (rowsTo hs vs l0) H node (hs k) j = if eqB (hs k) H = true ∧ ((j : Int) == (node : Int) / 64) = true then bits BinOp.or IntKind.u64 (vs k j) (IntKind.u64.wrap (2 ^ (node % 64))) else vs k j := by
  by_cases e : hs k = H
  · have hm : H ∈ keysTo hs l0 := mem_keysTo.2 ⟨k, hk, e⟩
    have hr : rowOf (keysTo hs l0) (rowsTo hs vs l0) H = vs k := by unfold rowOf; rw [if_pos hm, ← e, hl]
    by_cases ej : j = node / 64
    · rw [if_pos ⟨eqB_true.2 e, by rw [beq_iff_eq]; omega⟩]
      rw [e, addZ_hit ej, hr]
      rfl
    · rw [if_neg (fun h => ej (by have := beq_iff_eq.1 h.2; omega))]
      rw [e, addZ_miss ej, hr]
  · rw [if_neg (fun h => e (eqB_true.1 h.1)), addZ_other e, hl]

set_option linter.unusedSimpArgs false in
set_option maxRecDepth 1000000 in
set_option maxHeartbeats 4000000 in
theorem walk8_main (a0 : Option Addr) (l0 c0 : Nat) (a1 : Option Addr) (c1 : Nat) (A : Nat → Option Addr) (L C : Nat → Nat) (words node : Nat) (H : List Int) (w : World) (hs : Nat → List Int) (vs : Nat → Nat → Int)
    (hH : Hash H) (h4 : l0 ≤ 4096) (hL : ∀ i, i < l0 → L i ≤ maxLen) (hw1 : 1 ≤ words) (hw2 : words ≤ 16384) (hnode : node < 64 * words) (hhs : ∀ i, i < l0 → Hash (hs i))
    (hc : l0 < 1 ∨ ∃ b0 o0 b1 o1, a0 = some ⟨b0, o0, none⟩ ∧ a1 = some ⟨b1, o1, none⟩ ∧ b0 < w.heap.size ∧ b1 < w.heap.size ∧ (∀ i, i < l0 → w.rangeAt b0 (o0 + i * 32) (hcs (hs i))) ∧
      (∀ i, i < l0 → w.cell? ⟨b1, o1 + i, none⟩ = some (.slice (A i) (L i) (C i))))
    (hrows : ∀ i, i < l0 → IsCells w (A i) (L i) fun j => .int .u64 (vs i j)) :
    Calls Try.prog 8 #[.slice a0 l0 c0, .slice a1 l0 c1, .int .i64 words, .int .i64 node, .agg (hcs H).toArray] w (RetT w) := by
  have hb : IsCells (w.alloc (Obj.cells (hcs H).toArray 29)) a1 l0 fun i => .slice (A i) (L i) (C i) := by
    rcases hc with hc | ⟨b0, o0, b1, o1, e0, e1, hb0, hb1, hc0, hc1⟩
    · exact .inl hc
    · exact .inr ⟨b1, o1, e1, by simp; omega, fun i hi => by rw [World.cell?_alloc_lt _ _ _ hb1]; exact hc1 i hi⟩
  have HC : Hid ((w.alloc (Obj.cells (hcs H).toArray 29)).rangeAt w.heap.size 0 (hcs H)) := range_box w H 29
  have HK : Hid (Calls Try.prog 21 #[.slice a0 l0 c0, .slice a1 l0 c1, .int .i64 words, .int .i64 node, .agg (hcs H).toArray] (w.alloc (Obj.cells (hcs H).toArray 29)) (RetB (w.alloc (Obj.cells (hcs H).toArray 29)))) :=
    bytes21 a0 l0 c0 a1 l0 c1 A L C words node _ _ (by unfold maxLen; omega) (by unfold maxLen; omega) hL hb
  clear hb
  unfold maxLen at hL
  have HROWS : Hid (∀ i, i < l0 → IsCells w (A i) (L i) fun j => .int .u64 (vs i j)) := hrows
  have HHS : Hid (∀ i, i < l0 → Hash (hs i)) := hhs
  clear hrows hhs
  have d1 : decide ((words : Int) < 1) = false := decide_eq_false (by omega)
  have d2 : decide ((16384 : Int) < (words : Int)) = false := decide_eq_false (by omega)
  have d3 : decide ((node : Int) < 0) = false := decide_eq_false (by omega)
  have d4 : decide (64 * (words : Int) ≤ (node : Int)) = false := decide_eq_false (by omega)
  rcases hc with hc | ⟨b0, o0, b1, o1, rfl, rfl, hb0, hb1, hc0, hc⟩
  all_goals
    go_enter Try.func8, Try.ntmps8
    go_wp2_with (first | (refine wl_load rfl 29 ht29 (.tmp 9) rfl _ _ rfl H hH.1 HC.out ?_) | (go_at_call 21; refine HK.out.mono ?_))
    rintro e w' ⟨r, rfl, hB⟩
    have HB0 : Hid (Below w.heap.size w w') := ((Below.refl _ _).alloc (Nat.le_refl _) _).trans (hB.mono (by simp))
    have HCw : Hid (w'.rangeAt w.heap.size 0 (hcs H)) := fun j v hv => by
      rw [hB.cell (p := ⟨w.heap.size, 0 + j, none⟩) (by simp)]; exact HC.out j v hv
    have hsz : w.heap.size < w'.heap.size := by have := hB.size; simp at this; omega
    clear hB HK HC
    cases r
    · go_wp2
      go_ret
      exact ⟨rfl, HB0.out⟩
    · go_wp2
      go_loop [11, 12] (fun n i => ∃ (k : Nat) (z : Nat), k ≤ l0 ∧ i = .int .i64 k ∧ n = .int .i64 z ∧ z ≤ 1048576) (fun _ i => l0 - (intOf i).toNat)
      case atStart => exact ⟨0, 32 * l0, Nat.zero_le _, rfl, by go_num, by omega⟩
      case round =>
        obtain ⟨k, z, hk, rfl, rfl, hz⟩ := hrel
        by_cases hlt : k < l0
        · have hLk := hL k hlt
          first
          | (exfalso; omega)
          | (have hck : w'.cell? ⟨b1, o1 + k, none⟩ = some (.slice (A k) (L k) (C k)) := by
               rw [HB0.out.cell (p := ⟨b1, o1 + k, none⟩) hb1]; exact hc k hlt
             by_cases hz2 : (131072 : Int) < (L k : Int)
             · have hd := decide_eq_true hz2
               go_wp2
               go_ret
               exact ⟨rfl, HB0.out⟩
             · have hd := decide_eq_false hz2
               by_cases hz3 : (1048576 : Int) < (z : Int) + 8 * (L k : Int)
               · have hd3 := decide_eq_true hz3
                 go_wp2
                 go_ret
                 exact ⟨rfl, HB0.out⟩
               · have hd3 := decide_eq_false hz3
                 go_wp2
                 go_round
                 case rel => exact ⟨k + 1, z + 8 * L k, by omega, by go_num, by go_num, by omega⟩
                 case measure => simp [intOf]; omega)
        · go_wp2
          go_loop [13] (fun i => ∃ (k : Nat), k ≤ l0 ∧ i = .int .i64 k ∧ Hid (∀ j, j < k → L j = words)) (fun i => l0 - (intOf i).toNat)
          case atStart => exact ⟨0, Nat.zero_le _, rfl, fun j hj => absurd hj (Nat.not_lt_zero _)⟩
          case round =>
            obtain ⟨k2, hk2, rfl, hLw⟩ := hrel
            by_cases hlt2 : k2 < l0
            · have hLk := hL k2 hlt2
              first
              | (exfalso; omega)
              | (have hck : w'.cell? ⟨b1, o1 + k2, none⟩ = some (.slice (A k2) (L k2) (C k2)) := by
                   rw [HB0.out.cell (p := ⟨b1, o1 + k2, none⟩) hb1]; exact hc k2 hlt2
                 by_cases hz2 : L k2 = words
                 · have HZ : Hid (L k2 = words) := hz2
                   have hd : ((L k2 : Int) != (words : Int)) = false := by rw [bne_eq_false_iff_eq]; omega
                   clear hz2
                   go_wp2
                   go_round
                   case rel => exact ⟨k2 + 1, by omega, by go_num, fun j hj => by
                     rcases Nat.lt_succ_iff_lt_or_eq.1 hj with h | rfl
                     · exact hLw.out j h
                     · exact HZ.out⟩
                   case measure => simp [intOf]; omega
                 · have hd : ((L k2 : Int) != (words : Int)) = true := by rw [bne_iff_ne]; omega
                   go_wp2
                   go_ret
                   exact ⟨rfl, HB0.out⟩)
            · have hLall : ∀ j, j < l0 → L j = words := fun j hj => hLw.out j (by omega)
              obtain ⟨AB, AO, hAB⟩ := rows_lie HROWS.out hLall hw1
              have HAB : Hid (∀ i, i < l0 → A i = some ⟨AB i, AO i, none⟩ ∧ AB i < w.heap.size ∧ ∀ j, j < words → w.cell? ⟨AB i, AO i + j, none⟩ = some (.int .u64 (vs i j))) := hAB
              have HLA : Hid (∀ j, j < l0 → L j = words) := hLall
              clear hAB hLall hLw
              have hmm := run_makeMap_hint (l0 : Int)
              have hmk := run_make43 words hw2
              go_wp2
              clear hmm
              go_loopw [15] (fun i wr => ∃ k : Nat, k ≤ l0 ∧ i = .int .i64 k ∧ Rec wr w'.heap.size w'.heap.size k words (keysTo hs k) (rowsTo hs vs k) ∧ Below w'.heap.size w' wr) (fun i _ => l0 - (intOf i).toNat)
              case atStart => exact ⟨0, Nat.zero_le _, rfl, rec_made _ _ _ _, (Below.refl _ _).alloc (Nat.le_refl _) _⟩
              case round =>
                revert wr
                intro w3 hrel
                obtain ⟨k3, hk3, rfl, hRec, hBel⟩ := hrel
                have HREC : Hid (Rec w3 w'.heap.size w'.heap.size k3 words (keysTo hs k3) (rowsTo hs vs k3)) := hRec
                have HBEL : Hid (Below w'.heap.size w' w3) := hBel
                clear hRec hBel
                by_cases hlt3 : k3 < l0
                · first
                  | (exfalso; omega)
                  | (have hsz3 : w'.heap.size < w3.heap.size := HREC.out.lt
                     have hABk := HAB.out k3 hlt3
                     have hck : w3.cell? ⟨b1, o1 + k3, none⟩ = some (.slice (some ⟨AB k3, AO k3, none⟩) words (C k3)) := by
                       rw [HBEL.out.cell (p := ⟨b1, o1 + k3, none⟩) (by show b1 < _; omega), HB0.out.cell (p := ⟨b1, o1 + k3, none⟩) hb1, hc k3 hlt3, hABk.1, HLA.out k3 hlt3]
                     go_wp2
                     go_loopw [17] (fun i wr => ∃ j : Nat, j ≤ words ∧ i = .int .i64 j ∧ wr.rowIs w3.heap.size 45 words (fun q => .int .u64 (if q < j then vs k3 q else 0)) ∧ Below w3.heap.size w3 wr) (fun i _ => words - (intOf i).toNat)
                     case atStart => exact ⟨0, Nat.zero_le _, rfl, (World.rowIs_made w3 (.int .u64 0) words 45).congr (fun q _ => by simp), (Below.refl _ _).alloc (Nat.le_refl _) _⟩
                     case round =>
                       revert wr
                       intro w4 hrel
                       obtain ⟨j, hj, rfl, hrow, hBel4⟩ := hrel
                       have HROW : Hid (w4.rowIs w3.heap.size 45 words (fun q => .int .u64 (if q < j then vs k3 q else 0))) := hrow
                       have HBEL4 : Hid (Below w3.heap.size w3 w4) := hBel4
                       clear hrow hBel4
                       by_cases hlt4 : j < words
                       · have hck4 : w4.cell? ⟨b1, o1 + k3, none⟩ = some (.slice (some ⟨AB k3, AO k3, none⟩) words (C k3)) := by
                           rw [HBEL4.out.cell (p := ⟨b1, o1 + k3, none⟩) (by show b1 < _; omega)]; exact hck
                         have hcj : w4.cell? ⟨AB k3, AO k3 + j, none⟩ = some (.int .u64 (vs k3 j)) := by
                           have h1 := hABk.2.1
                           rw [HBEL4.out.cell (p := ⟨AB k3, AO k3 + j, none⟩) (by show AB k3 < _; omega), HBEL.out.cell (p := ⟨AB k3, AO k3 + j, none⟩) (by show AB k3 < _; omega), HB0.out.cell (p := ⟨AB k3, AO k3 + j, none⟩) h1]
                           exact hABk.2.2 j hlt4
                         obtain ⟨old, hold⟩ : ∃ old, w4.cell? ⟨w3.heap.size, j, none⟩ = some old := ⟨_, HROW.out.cell hlt4⟩
                         have hfz : w4.frozen? ⟨w3.heap.size, j, none⟩ = false := HROW.out.frozen j
                         clear hABk
                         go_wp2
                         go_roundw
                         case rel => exact ⟨j + 1, by omega, by go_num, (HROW.out.set j (.int .u64 (vs k3 j))).congr (fun q _ => by
                           by_cases e : q = j
                           · simp [e]
                           · by_cases e2 : q < j
                             · simp [e, e2, Nat.lt_succ_of_lt e2]
                             · have : ¬ q < j + 1 := by omega
                               simp [e, e2, this]), HBEL4.out.setCell (Nat.le_refl _) _⟩
                         case measure => simp [intOf]; omega
                       · obtain ⟨D, g, hRo⟩ := HREC.out
                         have hRo4 : RecOf w4 w'.heap.size w'.heap.size k3 words (keysTo hs k3) (rowsTo hs vs k3) D g := hRo.kept (HBEL4.out.block _ hsz3) (fun k hk' => HBEL4.out.block _ (hRo.row k hk').lt)
                         have hrow' : w4.rowIs w3.heap.size 45 words (fun i => .int .u64 (vs k3 i)) := HROW.out.congr (fun q hq => by rw [if_pos (by omega)])
                         obtain ⟨w5, hrun5, hturn5, hRec5⟩ := hRo4.put (by unfold maxLen; omega) (HHS.out k3 hlt3) (r := w3.heap.size) (by omega) (fun k' hk' => by have := (hRo.row k' hk').lt; omega) hrow'
                         have hs4 : w3.heap.size ≤ w4.heap.size := HBEL4.out.size
                         have HR5 : Hid ((Instr.mapUpdate 44 (.map (some w'.heap.size)) (.agg (hcs (hs k3)).toArray) (.slice (some ⟨w3.heap.size, 0, none⟩) words words)).run Try.prog w4 = .ok () w5) := hrun5
                         have HREC5 : Hid (Rec w5 w'.heap.size w'.heap.size (k3 + 1) words (keysTo hs (k3 + 1)) (rowsTo hs vs (k3 + 1))) := ⟨_, _, hRec5⟩
                         have HBEL5 : Hid (Below w'.heap.size w' w5) := (HBEL.out.trans (HBEL4.out.mono (by omega))).grown hturn5.grown (by omega) (fun k e => by cases e; exact Nat.le_refl _)
                         have HRG : Hid (w4.rangeAt b0 (o0 + k3 * 32) (hcs (hs k3))) := fun q v hv => by
                           rw [HBEL4.out.cell (p := ⟨b0, o0 + k3 * 32 + q, none⟩) (by show b0 < _; omega), HBEL.out.cell (p := ⟨b0, o0 + k3 * 32 + q, none⟩) (by show b0 < _; omega), HB0.out.cell (p := ⟨b0, o0 + k3 * 32 + q, none⟩) hb0]
                           exact hc0 k3 hlt3 q v hv
                         have HHk := (HHS.out k3 hlt3).1
                         clear hRo hRo4 hrow' hrun5 hturn5 hRec5 hABk
                         have HHK : Hid ((hs k3).length = 32) := HHk
                         clear HHk
                         go_wp2_with (first | (refine wl_load rfl 29 ht29 (.tmp 132) rfl _ _ rfl (hs k3) HHK.out HRG.out ?_) | (refine wl_mapUpdate rfl 44 _ _ _ rfl _ _ _ rfl rfl rfl w5 HR5.out ?_))
                         go_roundw
                         case rel => exact ⟨k3 + 1, by omega, by go_num, HREC5.out, HBEL5.out⟩
                         case measure => simp [intOf]; omega)
                · have hsz3 : w'.heap.size < w3.heap.size := HREC.out.lt
                  have HC3 : Hid (w3.rangeAt w.heap.size 0 (hcs H)) := fun q v hv => by
                    rw [HBEL.out.cell (p := ⟨w.heap.size, 0 + q, none⟩) hsz]; exact HCw.out q v hv
                  have HK22 : Hid (Calls Try.prog 22 #[.map (some w'.heap.size), .int .i64 words, .int .i64 node, .agg (hcs H).toArray] w3 (AddPost w3 w'.heap.size w'.heap.size l0 words (keysTo hs l0) (rowsTo hs vs l0) H node)) := by
                    have e : k3 = l0 := by omega
                    exact add22 w3 _ _ l0 words _ _ H node (e ▸ HREC.out) hH hnode hw2 (by omega) (by unfold maxLen; omega) (Nat.le_refl _)
                  clear hmk
                  go_wp2_with (first | (refine wl_load rfl 29 ht29 (.tmp 9) rfl _ _ rfl H hH.1 HC3.out ?_) | (go_at_call 22; refine HK22.out.mono ?_))
                  rintro e w6 ⟨rfl, hRec6, hBel6⟩
                  have HREC6 : Hid (Rec w6 w'.heap.size w'.heap.size (l0 + 1) words (addKey (keysTo hs l0) H) (addZ (keysTo hs l0) (rowsTo hs vs l0) H node)) := hRec6
                  have HBEL6 : Hid (Below w'.heap.size w' w6) := HBEL.out.trans hBel6
                  clear hRec6 hBel6 HK22 HC3 HREC HBEL
                  obtain ⟨D, g, hRo6⟩ := HREC6.out
                  have HRO : Hid (RecOf w6 w'.heap.size w'.heap.size (l0 + 1) words (addKey (keysTo hs l0) H) (addZ (keysTo hs l0) (rowsTo hs vs l0) H node) D g) := hRo6
                  clear hRo6
                  have HC6 : Hid (∀ m, (w6.drewN m).rangeAt w.heap.size 0 (hcs H)) := fun m q v hv => by
                    show w6.cell? _ = _
                    rw [HBEL6.out.cell (p := ⟨w.heap.size, 0 + q, none⟩) hsz]; exact HCw.out q v hv
                  have hand := i64_and63 (node : Int)
                  go_wp2
                  clear hand
                  go_loopw [20, 21, 22] (fun d hi i wr => ∃ k m : Nat, k ≤ l0 ∧ i = .int .i64 k ∧ d = .int .i64 (cntTo hs l0 k) ∧ hi = .bool (inTo hs H k) ∧ wr = w6.drewN m) (fun _ _ i _ => l0 - (intOf i).toNat)
                  case atStart => exact ⟨0, 0, Nat.zero_le _, rfl, rfl, rfl, rfl⟩
                  case round =>
                    obtain ⟨k5, m5, hk5, rfl, rfl, rfl, rfl⟩ := hrel
                    have hcl := cntTo_le hs l0 k5
                    by_cases hlt5 : k5 < l0
                    · first
                      | (exfalso; omega)
                      | (have HG6 : Hid (∀ q, q < l0 → ∀ m, (w6.drewN m).rangeAt b0 (o0 + q * 32) (hcs (hs q))) := fun q hq m j v hv => by
                           show w6.cell? _ = _
                           rw [HBEL6.out.cell (p := ⟨b0, o0 + q * 32 + j, none⟩) (by show b0 < _; omega), HB0.out.cell (p := ⟨b0, o0 + q * 32 + j, none⟩) hb0]
                           exact hc0 q hq j v hv
                         cases hbe : eqB (hs k5) H
                         all_goals
                           go_wp2
                           refine wp_region_quiet_lit (by kernel_rfl) (by kernel_rfl) ?_
                           repeat (first | go_big_quiet_skip | (go_big_quiet_want; first | (refine q_load 29 ht29 (.tmp 154) rfl _ _ rfl (hs k5) (HHS.out k5 hlt5).1 (HG6.out k5 hlt5 _) ?_; go_frame; go_big_quiet_on) | (refine q_load 29 ht29 (.tmp 9) rfl _ _ rfl H hH.1 (HC6.out _) ?_; go_frame; go_big_quiet_on) | (refine q_eql 29 29 ht29 _ _ rfl (hs k5) H rfl rfl (HHS.out k5 hlt5) hH hbe ?_; go_frame; go_big_quiet_on) | (go_big_quiet_op; go_big_quiet_on)))
                           refine wpQuiet_nil ?_
                           intro _ hw'
                           obtain ⟨nq, hw''⟩ := hw'
                           subst hw''
                           go_wp2
                           go_loopw [23, 24] (fun la j wr => ∃ j6 m : Nat, k5 < j6 ∧ j6 ≤ l0 ∧ j = .int .i64 j6 ∧ la = .bool true ∧ wr = w6.drewN m ∧ Hid (∀ q : Nat, k5 < q → q < j6 → ¬ (hs q = hs k5))) (fun _ j _ => l0 - (intOf j).toNat)
                           case atStart => exact ⟨k5 + 1, _, Nat.lt_succ_self _, hlt5, by go_num, rfl, rfl, fun q h1 h2 => by omega⟩
                           case round =>
                             obtain ⟨j6, m6, hj6, hj6', rfl, rfl, rfl, HNO⟩ := hrel
                             by_cases hlt6 : j6 < l0
                             · cases hb6 : eqB (hs j6) (hs k5)
                               all_goals
                                 go_wp2
                                 refine wp_region_quiet_lit (by kernel_rfl) (by kernel_rfl) ?_
                                 repeat (first | go_big_quiet_skip | (go_big_quiet_want; first | (refine q_load 29 ht29 (.tmp 168) rfl _ _ rfl (hs j6) (HHS.out j6 hlt6).1 (HG6.out j6 hlt6 _) ?_; go_frame; go_big_quiet_on) | (refine q_load 29 ht29 (.tmp 172) rfl _ _ rfl (hs k5) (HHS.out k5 hlt5).1 (HG6.out k5 hlt5 _) ?_; go_frame; go_big_quiet_on) | (refine q_eql 29 29 ht29 _ _ rfl (hs j6) (hs k5) rfl rfl (HHS.out j6 hlt6) (HHS.out k5 hlt5) hb6 ?_; go_frame; go_big_quiet_on) | (go_big_quiet_op; go_big_quiet_on)))
                                 refine wpQuiet_nil ?_
                                 intro _ hw'
                                 obtain ⟨nq6, hw''⟩ := hw'
                                 subst hw''
                                 go_wp2
                                 go_roundw
                               · exact ⟨j6 + 1, _, by omega, hlt6, by go_num, rfl, rfl, fun q h1 h2 => by
                                 rcases Nat.lt_succ_iff_lt_or_eq.1 h2 with h | rfl
                                 · exact HNO.out q h1 h
                                 · exact eqB_false.1 hb6⟩
                               · simp [intOf]; omega
                               · exact ⟨k5 + 1, _, hlt5, by go_num, by rw [cntTo_succ, lastB_false hj6 hlt6 (eqB_true.1 hb6)]; rfl, by rw [inTo_succ, hbe]; simp, rfl⟩
                               · simp [intOf]; omega
                             · have HNO' : Hid (∀ q, k5 < q → q < l0 → hs q ≠ hs k5) := fun q h1 h2 => HNO.out q h1 (by omega)
                               have hkS : hs k5 ∈ addKey (keysTo hs l0) H := mem_addKey.2 (.inr (mem_keysTo.2 ⟨k5, hlt5, rfl⟩))
                               have HLK : Hid (∀ m, (Instr.lookup 44 (.map (some w'.heap.size)) (.agg (hcs (hs k5)).toArray) true).run Try.prog (w6.drewN m) = .ok (.tuple #[.slice (some ⟨g (hs k5), 0, none⟩) words words, .bool true]) (w6.drewN m)) := fun m =>
                                 (HRO.out.kept (w' := w6.drewN m) rfl (fun _ _ => rfl)).look hkS
                               have HROW : Hid (w6.rowIs (g (hs k5)) 45 words (fun i => .int .u64 (addZ (keysTo hs l0) (rowsTo hs vs l0) H node (hs k5) i))) := HRO.out.row _ hkS
                               have HLST : Hid (rowsTo hs vs l0 (hs k5) = vs k5) := rowsTo_last hlt5 HNO'.out
                               have hwne : ((words : Int) != (words : Int)) = false := by simp
                               clear hkS
                               go_wp2_with (first | (refine wl_load rfl 29 ht29 (.tmp 183) rfl _ _ rfl (hs k5) (HHS.out k5 hlt5).1 (HG6.out k5 hlt5 _) ?_) | (refine wl_lookup rfl 44 _ _ true rfl _ _ _ rfl rfl (HLK.out _) ?_))
                               go_loopw [27] (fun i wr => ∃ j m : Nat, j ≤ words ∧ i = .int .i64 j ∧ wr = w6.drewN m) (fun i _ => words - (intOf i).toNat)
                               case atStart => exact ⟨0, _, Nat.zero_le _, rfl, rfl⟩
                               case round =>
                                 obtain ⟨j7, m7, hj7, rfl, rfl⟩ := hrel
                                 by_cases hlt7 : j7 < words
                                 · have hABk := HAB.out k5 hlt5
                                   have hcv : w6.cell? ⟨b1, o1 + k5, none⟩ = some (.slice (some ⟨AB k5, AO k5, none⟩) words (C k5)) := by
                                     rw [HBEL6.out.cell (p := ⟨b1, o1 + k5, none⟩) (by show b1 < _; omega), HB0.out.cell (p := ⟨b1, o1 + k5, none⟩) hb1, hc k5 hlt5, hABk.1, HLA.out k5 hlt5]
                                   have hcj : w6.cell? ⟨AB k5, AO k5 + j7, none⟩ = some (.int .u64 (vs k5 j7)) := by
                                     have h1 := hABk.2.1
                                     rw [HBEL6.out.cell (p := ⟨AB k5, AO k5 + j7, none⟩) (by show AB k5 < _; omega), HB0.out.cell (p := ⟨AB k5, AO k5 + j7, none⟩) h1]
                                     exact hABk.2.2 j7 hlt7
                                   have hgot := HROW.out.cell hlt7
                                   rw [got_is hlt5 HLST.out] at hgot
                                   clear hABk
                                   cases hjn : ((j7 : Int) == (node : Int) / 64)
                                   all_goals
                                     simp only [hbe, hjn, Bool.false_eq_true, false_and, and_false, and_self, if_true, if_false] at hgot
                                     go_wp2
                                     refine wp_region_quiet_lit (by kernel_rfl) (by kernel_rfl) ?_
                                     repeat (first | go_big_quiet_skip | (go_big_quiet_want; first | (refine q_load 29 ht29 (.tmp 210) rfl _ _ rfl (hs k5) (HHS.out k5 hlt5).1 (HG6.out k5 hlt5 _) ?_; go_frame; go_big_quiet_on) | (refine q_load 29 ht29 (.tmp 9) rfl _ _ rfl H hH.1 (HC6.out _) ?_; go_frame; go_big_quiet_on) | (refine q_eql 29 29 ht29 _ _ rfl (hs k5) H rfl rfl (HHS.out k5 hlt5) hH hbe ?_; go_frame; go_big_quiet_on) | (go_big_quiet_op; go_big_quiet_on)))
                                     refine wpQuiet_nil ?_
                                     intro _ hw'
                                     obtain ⟨nq7, hw''⟩ := hw'
                                     subst hw''
                                     go_wp2
                                     go_roundw
                                     case rel => exact ⟨j7 + 1, _, by omega, by go_num, rfl⟩
                                     case measure => simp [intOf]; omega
                                 · go_wp2
                                   go_roundw
                                   case rel => exact ⟨k5 + 1, _, hlt5, by go_num, by rw [cntTo_succ, lastB_true.2 HNO'.out]; rfl, by rw [inTo_succ, hbe]; simp, rfl⟩
                                   case measure => simp [intOf]; omega)
                    · have hcnt : (keysTo hs l0).length = cntTo hs l0 k5 := by rw [length_keysTo]; rw [show k5 = l0 from by omega]
                      have HR6 : Hid (∀ m, Rec (w6.drewN m) w'.heap.size w'.heap.size (l0 + 1) words (addKey (keysTo hs l0) H) (addZ (keysTo hs l0) (rowsTo hs vs l0) H node)) := fun m => ⟨D, g, HRO.out.kept rfl (fun _ _ => rfl)⟩
                      have HFIN : Hid (∀ m, RetT w (.returned (.bool true)) (w6.drewN m)) := fun m => ⟨rfl, (HB0.out.trans (HBEL6.out.mono (by omega))).trans (below_drewN (Below.refl _ _) m)⟩
                      cases hin : inTo hs H k5
                      · have hH' : H ∉ keysTo hs l0 := fun h => by
                          have := inTo_iff.2 h
                          rw [show l0 = k5 from by omega, hin] at this
                          cases this
                        have HLEN : Hid ((addKey (keysTo hs l0) H).length = cntTo hs l0 k5 + 1) := by show _ = _; rw [length_addKey_new hH', hcnt]
                        have hkS : H ∈ addKey (keysTo hs l0) H := mem_addKey.2 (.inl rfl)
                        have HLK : Hid (∀ m, (Instr.lookup 44 (.map (some w'.heap.size)) (.agg (hcs H).toArray) true).run Try.prog (w6.drewN m) = .ok (.tuple #[.slice (some ⟨g H, 0, none⟩) words words, .bool true]) (w6.drewN m)) := fun m =>
                          (HRO.out.kept (w' := w6.drewN m) rfl (fun _ _ => rfl)).look hkS
                        have HROW : Hid (w6.rowIs (g H) 45 words (fun i => .int .u64 (addZ (keysTo hs l0) (rowsTo hs vs l0) H node H i))) := HRO.out.row _ hkS
                        have HNOT : Hid (H ∉ keysTo hs l0) := hH'
                        have hwne : ((words : Int) != (words : Int)) = false := by simp
                        clear hkS hH' hcnt
                        go_wp2_with (first | (refine wl_load rfl 29 ht29 (.tmp 9) rfl _ _ rfl H hH.1 (HC6.out _) ?_) | (refine wl_lookup rfl 44 _ _ true rfl _ _ _ rfl rfl (HLK.out _) ?_))
                        go_loopw [31] (fun i wr => ∃ j m : Nat, j ≤ words ∧ i = .int .i64 j ∧ wr = w6.drewN m) (fun i _ => words - (intOf i).toNat)
                        case atStart => exact ⟨0, _, Nat.zero_le _, rfl, rfl⟩
                        case round =>
                          obtain ⟨j8, m8, hj8, rfl, rfl⟩ := hrel
                          by_cases hlt8 : j8 < words
                          · have hgot := HROW.out.cell hlt8
                            cases hjn : ((j8 : Int) == (node : Int) / 64)
                            · have hne : j8 ≠ node / 64 := fun e => by have := beq_eq_false_iff_ne.1 hjn; omega
                              rw [addZ_miss hne, rowOf, if_neg HNOT.out] at hgot
                              clear hne
                              go_wp2
                              go_roundw
                              case rel => exact ⟨j8 + 1, _, by omega, by go_num, rfl⟩
                              case measure => simp [intOf]; omega
                            · have he : j8 = node / 64 := by have := beq_iff_eq.1 hjn; omega
                              rw [addZ_hit he, rowOf, if_neg HNOT.out, orBit, orBit_zero] at hgot
                              clear he
                              go_wp2
                              go_roundw
                              case rel => exact ⟨j8 + 1, _, by omega, by go_num, rfl⟩
                              case measure => simp [intOf]; omega
                          · go_wp2_with (first | (refine wl_len rfl (.tmp 261) rfl rfl (HR6.out _) _ HLEN.out ?_))
                            go_ret
                            exact HFIN.out _
                      · have hH' : H ∈ keysTo hs l0 := inTo_iff.1 (by rw [show l0 = k5 from by omega]; exact hin)
                        have HLEN : Hid ((addKey (keysTo hs l0) H).length = cntTo hs l0 k5) := by show _ = _; rw [length_addKey_in hH', hcnt]
                        clear hH' hcnt
                        go_wp2_with (first | (refine wl_len rfl (.tmp 261) rfl rfl (HR6.out _) _ HLEN.out ?_))
                        go_ret
                        exact HFIN.out _

end Go.Proofs.Qxb6602710a
