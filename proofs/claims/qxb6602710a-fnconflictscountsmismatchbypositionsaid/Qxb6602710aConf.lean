/-
  Seat b6602710a: the contracts of 'zzLogOf' (17), 'zzPositive' (18), 'conflicts' (25), 'ZZConflicts' (16).
-/
import Derived.Test.Qxb6602710aWatch
import Derived.Test.Qxb6602710aPop
namespace Go.Proofs.Qxb6602710a
open Go.ChangeShapes Go.WideShapes Go.ChangeAt Go.RowKit

/-- A slice of n hashes in block R. -/
def LogRow (w : World) (R n : Nat) (ls : Nat → List Int) : Prop := ∀ i, i < n → w.rangeAt R (i * 32) (hcs (ls i))
def Logged (w : World) (n : Nat) (ls : Nat → List Int) (e : Ending) (w' : World) : Prop :=
  ∃ R, e = .returned (.slice (some ⟨R, 0, none⟩) n n) ∧ w.heap.size ≤ R ∧ R < w'.heap.size ∧ LogRow w' R n ls ∧ Below w.heap.size w w'

section
variable {o : Oper} {a : Act} {w : World}
theorem exec_storeH {t : TypeId} (hT : HT t) (x y : Operand) (ho : o.op = .store t x y) (b off : Nat) (hx : a.eval x = .pointer (some ⟨b, off, none⟩)) (h : List Int) (hy : a.eval y = .agg (hcs h).toArray) (hl : h.length = 32) (ht : w.there b off 32) :
    (execOp a.eval o).run Try.prog w = .ok .skip (w.setCells b off (hcs h)) := by
  have := run_storeVar_mid (P := Try.prog) w b off t (hcs h).toArray (by simpa [hcs_length, hl] using ht) (by rw [hT.size]; simp [hcs_length, hl]) (all_oneCell_toArray (hcs_oneCell h))
  unfold execOp
  simp only [ho, hx, hy, Instr.storeAt, Instr.sureAddr, Sem.run_bind, Sem.run_pure, Result.andThen_ok, this]
theorem wl_storeH {ops : Array Oper} {rest : List Oper} {Q : Exit → Act → World → Prop} (hg : o.guard = none) (t : TypeId) (hT : HT t) (x y : Operand) (ho : o.op = .store t x y) (b off : Nat) (hx : a.eval x = .pointer (some ⟨b, off, none⟩)) (h : List Int) (hy : a.eval y = .agg (hcs h).toArray) (hl : h.length = 32) (ht : w.there b off 32)
    (hk : wpList Try.prog ops Q rest (a.put o.dst undef) (w.setCells b off (hcs h))) : wpList Try.prog ops Q (o :: rest) a w :=
  wl_unit hg _ (exec_storeH hT x y ho b off hx h hy hl ht) hk
end

theorem make37 (n : Nat) (hn : n ≤ 100000) : ∃ C : Array Value, C.size = n * 32 ∧ ∀ w, (Instr.makeSlice 37 (.int .i64 n) (.int .i64 n)).run Try.prog w = .ok (.slice (some ⟨w.heap.size, 0, none⟩) n n) (w.alloc (.cells C 31)) := by
  obtain ⟨i, hi, hz, hs, hb⟩ : ∃ i, Try.prog.info? 31 = some i ∧ (∃ z, i.zero = some z) ∧ i.size = 32 ∧ i.bytes = 32 := by
    have h : (Try.prog.info? 31).map (fun i => (i.zero.isSome, i.size, i.bytes)) = some (true, 32, 32) := by kernel_rfl
    obtain ⟨i, hi, he⟩ := Option.map_eq_some_iff.1 h
    simp only [Prod.mk.injEq] at he
    exact ⟨i, hi, Option.isSome_iff_exists.1 he.1, he.2.1, he.2.2⟩
  obtain ⟨z, hz⟩ := hz
  refine ⟨madeCells z.cells (n * 32), size_madeCells _ _, fun w => ?_⟩
  have := run_make (P := Try.prog) w 37 31 i z Try.underlying37 hi hz .i64 .i64 n n (by omega) (Int.le_refl _) (by rw [hb]; omega) (by omega)
  simpa [hs] using this

set_option maxRecDepth 100000 in
set_option maxHeartbeats 1000000 in
theorem logOf17 (a0 : Option Addr) (c0 n : Nat) (ls : Nat → List Int) (w : World) (hn : n ≤ 4096) (hK : IsHashes w a0 n ls) :
    Calls Try.prog 17 #[.slice a0 n c0] w (Logged w n ls) := by
  obtain ⟨C, hC, hmk⟩ := make37 n (by omega)
  have HHS : Hid (∀ i, i < n → Hash (ls i)) := hK.1
  have HC : Hid (C.size = n * 32) := hC
  clear hC
  rcases hK.2 with h0 | ⟨b0, o0, rfl, hb0, hc0⟩
  all_goals
    clear hK
    go_enter Try.func17, Try.ntmps17
    go_wp2
    clear hmk
    go_loopw [4] (fun i wr => ∃ k : Nat, k ≤ n ∧ i = .int .i64 k ∧ LogRow wr w.heap.size k ls ∧ wr.there w.heap.size 0 (n * 32) ∧ Below w.heap.size w wr ∧ w.heap.size < wr.heap.size) (fun i _ => n - (intOf i).toNat)
    case atStart => exact ⟨0, Nat.zero_le _, rfl, fun i hi => absurd hi (Nat.not_lt_zero _), there_new w C 31 0 (n * 32) (by rw [HC.out]; omega), (Below.refl _ _).alloc (Nat.le_refl _) _, by simp⟩
    case round =>
      obtain ⟨k, hk, rfl, hrow, hthere, hbel, hlt0⟩ := hrel
      have HROW : Hid (LogRow wr w.heap.size k ls) := hrow
      have HTH : Hid (wr.there w.heap.size 0 (n * 32)) := hthere
      have HBEL : Hid (Below w.heap.size w wr) := hbel
      clear hrow hthere hbel
      by_cases hlt : k < n
      · first
        | (exfalso; omega)
        | (have HRG : Hid (wr.rangeAt b0 (o0 + k * 32) (hcs (ls k))) := fun q v hv => by
             rw [HBEL.out.cell (p := ⟨b0, o0 + k * 32 + q, none⟩) hb0]; exact hc0 k hlt q v hv
           have HTK : Hid (wr.there w.heap.size (k * 32) 32) := fun j hj => by have := HTH.out (k * 32 + j) (by omega); simpa using this
           have HL : Hid ((ls k).length = 32) := (HHS.out k hlt).1
           go_wp2_with (first | (refine wl_load rfl 29 ht29 (.tmp 18) rfl _ _ rfl (ls k) HL.out HRG.out ?_) | (refine wl_storeH rfl 31 ht31 (.tmp 20) (.tmp 19) rfl _ _ rfl (ls k) rfl HL.out HTK.out ?_))
           go_roundw
           case rel => exact ⟨k + 1, by omega, by go_num, fun i hi => by
               rcases Nat.lt_succ_iff_lt_or_eq.1 hi with h | rfl
               · exact World.rangeAt_setCells_apart (HROW.out i h) _ _ _ (by rw [hcs_length, (HHS.out i (by omega)).1, hcs_length, HL.out]; omega)
               · exact World.rangeAt_setCells_same _ _ _ _ (by rw [hcs_length, HL.out]; exact HTK.out),
             World.there_setCells HTH.out _ _ _, below_setCells HBEL.out (Nat.le_refl _) _ _, by rw [size_setCells]; omega⟩
           case measure => simp [intOf]; omega)
      · go_wp2
        go_ret
        exact ⟨w.heap.size, rfl, Nat.le_refl _, hlt0, by rw [show n = k from by omega]; exact HROW.out, HBEL.out⟩

/-! ### zzPositive -/
/-- How many of the first k heights are above nought. -/
def posTo (ht : Nat → Int) (k : Nat) : Nat := sumTo (fun i => if 0 < ht i then 1 else 0) k
theorem posTo_up {ht : Nat → Int} {k : Nat} (h : 0 < ht k) : posTo ht (k + 1) = posTo ht k + 1 := by
  show posTo ht k + (if 0 < ht k then 1 else 0) = _
  rw [if_pos h]
theorem posTo_stay {ht : Nat → Int} {k : Nat} (h : ht k ≤ 0) : posTo ht (k + 1) = posTo ht k := by
  show posTo ht k + (if 0 < ht k then 1 else 0) = _
  rw [if_neg (by omega)]
  rfl
theorem posTo_le (ht : Nat → Int) (k : Nat) : posTo ht k ≤ k := by
  have := sumTo_le (f := fun i => if 0 < ht i then 1 else 0) (c := 1) (n := k) (fun i _ => by show (if 0 < ht i then 1 else 0) ≤ 1; split <;> omega)
  unfold posTo
  omega

set_option maxRecDepth 100000 in
set_option maxHeartbeats 1000000 in
theorem positive18 (a0 : Option Addr) (c0 n : Nat) (ht : Nat → Int) (w : World) (hn : n ≤ 4096) (hK : IsCells w a0 n fun i => .int .i64 (ht i)) :
    Calls Try.prog 18 #[.slice a0 n c0] w fun e w' => e = .returned (.int .i64 (posTo ht n)) ∧ w' = w := by
  rcases hK with h0 | ⟨b0, o0, rfl, hb0, hc0⟩
  all_goals
    go_enter Try.func18, Try.ntmps18
    go_wp2
    go_loop [3, 4] (fun p i => ∃ k : Nat, k ≤ n ∧ i = .int .i64 k ∧ p = .int .i64 (posTo ht k)) (fun _ i => n - (intOf i).toNat)
    case atStart => exact ⟨0, Nat.zero_le _, rfl, rfl⟩
    case round =>
      obtain ⟨k, hk, rfl, rfl⟩ := hrel
      have hpl := posTo_le ht k
      by_cases hlt : k < n
      · first
        | (exfalso; omega)
        | (have hck := hc0 k hlt
           by_cases hp : 0 < ht k
           · have dp := decide_eq_true hp
             go_wp2
             go_round
             case rel => exact ⟨k + 1, by omega, by go_num, by rw [posTo_up hp]; go_num⟩
             case measure => simp [intOf]; omega
           · have dp := decide_eq_false hp
             have hp' : ht k ≤ 0 := by omega
             have HP : Hid (ht k ≤ 0) := hp'
             go_wp2
             go_round
             case rel => exact ⟨k + 1, by omega, by go_num, by rw [posTo_stay HP.out]⟩
             case measure => simp [intOf]; omega)
      · go_wp2
        go_ret
        exact ⟨congrArg (fun q : Nat => Ending.returned (.int .i64 (posTo ht q : Nat))) (show k = n from by omega), rfl⟩

/-! ### conflicts -/
/-- How many of the first k rows are above nought and not in the log at their height. -/
def confTo (ls hs : Nat → List Int) (ht : Nat → Int) (k : Nat) : Nat := sumTo (fun i => if 0 < ht i ∧ ¬ ls ((ht i).toNat - 1) = hs i then 1 else 0) k
theorem confTo_up {ls hs : Nat → List Int} {ht : Nat → Int} {k p : Nat} (h : ht k = (p : Int) + 1) (hne : ¬ ls p = hs k) : confTo ls hs ht (k + 1) = confTo ls hs ht k + 1 := by
  show confTo ls hs ht k + (if 0 < ht k ∧ ¬ ls ((ht k).toNat - 1) = hs k then 1 else 0) = _
  rw [if_pos ⟨by omega, by rw [show (ht k).toNat - 1 = p from by omega]; exact hne⟩]
theorem confTo_same {ls hs : Nat → List Int} {ht : Nat → Int} {k p : Nat} (h : ht k = (p : Int) + 1) (he : ls p = hs k) : confTo ls hs ht (k + 1) = confTo ls hs ht k := by
  show confTo ls hs ht k + (if 0 < ht k ∧ ¬ ls ((ht k).toNat - 1) = hs k then 1 else 0) = _
  rw [if_neg (fun hh => hh.2 (by rw [show (ht k).toNat - 1 = p from by omega]; exact he))]
  rfl
theorem confTo_low {ls hs : Nat → List Int} {ht : Nat → Int} {k : Nat} (h : ht k ≤ 0) : confTo ls hs ht (k + 1) = confTo ls hs ht k := by
  show confTo ls hs ht k + (if 0 < ht k ∧ ¬ ls ((ht k).toNat - 1) = hs k then 1 else 0) = _
  rw [if_neg (fun hh => by omega)]
  rfl
theorem confTo_le (ls hs : Nat → List Int) (ht : Nat → Int) (k : Nat) : confTo ls hs ht k ≤ k := by
  have := sumTo_le (f := fun i => if 0 < ht i ∧ ¬ ls ((ht i).toNat - 1) = hs i then 1 else 0) (c := 1) (n := k) (fun i _ => by show (if 0 < ht i ∧ ¬ ls ((ht i).toNat - 1) = hs i then 1 else 0) ≤ 1; split <;> omega)
  unfold confTo
  omega

theorem range_hash {w : World} {b : Nat} {h : List Int} {x : Int} {r : Bool} (hr : w.rangeAt b 0 (wcs h x r)) : w.rangeAt b 0 (hcs h) := fun j v hv => by
  refine hr j v ?_
  unfold wcs
  rw [List.getElem?_append_left (List.getElem?_eq_some_iff.1 hv).1]
  exact hv

set_option maxRecDepth 100000 in
set_option maxHeartbeats 1000000 in
theorem conflicts25 (RL m cm R n c : Nat) (ls hs : Nat → List Int) (ht : Nat → Int) (rv : Nat → Bool) (w : World) (hn : n ≤ 4096) (hm : m ≤ 4096) (hRL : RL < w.heap.size) (hR : R < w.heap.size) (hls : ∀ i, i < m → Hash (ls i)) (hhs : ∀ i, i < n → Hash (hs i))
    (hht : ∀ i, i < n → ht i ≤ m) (hL : LogRow w RL m ls) (hW : WatchRow w R n hs ht rv) :
    Calls Try.prog 25 #[.slice (some ⟨RL, 0, none⟩) m cm, .slice (some ⟨R, 0, none⟩) n c] w (RetI w (confTo ls hs ht n)) := by
  have HW : Hid (WatchRow w R n hs ht rv) := hW
  have HL : Hid (LogRow w RL m ls) := hL
  have HHS : Hid (∀ i, i < n → Hash (hs i)) := hhs
  have HLS : Hid (∀ i, i < m → Hash (ls i)) := hls
  have HHT : Hid (∀ i, i < n → ht i ≤ m) := hht
  clear hW hL hhs hls hht
  go_enter Try.func25, Try.ntmps25
  go_wp2
  go_loopw [5, 10] (fun i j wr => ∃ k : Nat, k ≤ n ∧ j = .int .i64 k ∧ i = .int .i64 (confTo ls hs ht k) ∧ Below w.heap.size w wr) (fun _ j _ => n - (intOf j).toNat)
  case atStart => exact ⟨0, Nat.zero_le _, rfl, rfl, Below.refl _ _⟩
  case round =>
    obtain ⟨k, hk, rfl, rfl, hbel⟩ := hrel
    have HBEL : Hid (Below w.heap.size w wr) := hbel
    have hsz := hbel.size
    have hcl := confTo_le ls hs ht k
    clear hbel
    by_cases hlt : k < n
    · have HHK : Hid (Hash (hs k)) := HHS.out k hlt
      have HRK0 : Hid (wr.rangeAt R (k * 34) (wcs (hs k) (ht k) (rv k))) := fun q v hv => by
        rw [HBEL.out.cell (p := ⟨R, k * 34 + q, none⟩) hR]
        exact HW.out k hlt q v hv
      have HTN : Hid (∀ C : Array Value, C.size = 34 → (wr.alloc (.cells C 33)).there wr.heap.size 0 34) := fun C hC => there_new wr C 33 0 34 (by omega)
      go_wp2_with (first | (refine wl_load33 rfl (.tmp 12) rfl _ _ rfl (wcs (hs k) (ht k) (rv k)) (wcs_length HHK.out.1 _ _) HRK0.out ?_) | (refine wl_store33_new rfl (.tmp 7) (.tmp 13) rfl _ rfl (wcs (hs k) (ht k) (rv k)) rfl (wcs_length HHK.out.1 _ _) (wcs_oneCell _ _ _) (HTN.out _ rfl) ?_))
      intro w2 hr2 hb2 hs2
      have HB2 : Hid (Below wr.heap.size wr w2) := ((Below.refl _ _).alloc (Nat.le_refl _) _).trans hb2
      have hq1 : w2.cell? ⟨wr.heap.size, 32, none⟩ = some (.int .i64 (ht k)) := by
        have := hr2 32 _ (wcs_height HHK.out.1 _ _)
        simpa using this
      have HHC : Hid (w2.rangeAt wr.heap.size 0 (hcs (hs k))) := range_hash hr2
      have HBN : Hid (∀ m, Below w.heap.size w (w2.drewN m)) := fun m => by
        have := HBEL.out.trans (HB2.out.mono (by omega))
        exact ⟨this.os, this.tape, this.output, this.size, this.block⟩
      clear hr2 hb2 hs2
      by_cases hp : 0 < ht k
      · obtain ⟨p, hpe⟩ : ∃ p : Nat, ht k = (p : Int) + 1 := ⟨(ht k).toNat - 1, by omega⟩
        have hpm : p < m := by have := HHT.out k hlt; omega
        rw [hpe] at hq1
        have HPE : Hid (ht k = (p : Int) + 1) := hpe
        clear hpe hp
        have HLP : Hid (w2.rangeAt RL (p * 32) (hcs (ls p))) := fun q v hv => by
          rw [HB2.out.cell (p := ⟨RL, p * 32 + q, none⟩) (by show RL < _; omega), HBEL.out.cell (p := ⟨RL, p * 32 + q, none⟩) hRL]
          exact HL.out p hpm q v hv
        have hp0 : (0 : Int) ≤ (p : Int) := Int.natCast_nonneg _
        have hp1 : (p : Int) < (m : Int) := by omega
        have dp : decide ((0 : Int) < (p : Int) + 1) = true := decide_eq_true (by omega)
        cases hb : !eqB (ls p) (hs k)
        all_goals
          go_wp2
          refine wp_region_quiet_lit (by kernel_rfl) (by kernel_rfl) ?_
          repeat (first | go_big_quiet_skip | (go_big_quiet_want; first | (refine q_load 31 ht31 (.tmp 22) rfl _ _ rfl (ls p) (HLS.out p hpm).1 HLP.out ?_; go_frame; go_big_quiet_on) | (refine q_load 31 ht31 (.tmp 24) rfl _ _ rfl (hs k) HHK.out.1 HHC.out ?_; go_frame; go_big_quiet_on) | (refine q_neq 31 31 ht31 _ _ rfl (ls p) (hs k) rfl rfl (HLS.out p hpm) HHK.out hb ?_; go_frame; go_big_quiet_on) | (go_big_quiet_op; go_big_quiet_on)))
          refine wpQuiet_nil ?_
          intro _ hw'
          obtain ⟨nq, hw''⟩ := hw'
          subst hw''
          go_wp2
          go_roundw
        · exact ⟨k + 1, by omega, by go_num, by rw [confTo_same HPE.out (eqB_true.1 (by simpa using hb))], HBN.out _⟩
        · simp [intOf]; omega
        · exact ⟨k + 1, by omega, by go_num, by rw [confTo_up HPE.out (eqB_false.1 (by simpa using hb))]; go_num, HBN.out _⟩
        · simp [intOf]; omega
      · have hp' : ht k ≤ 0 := by omega
        have HP : Hid (ht k ≤ 0) := hp'
        have dp : decide (0 < ht k) = false := decide_eq_false hp
        go_wp2
        refine wp_region_quiet_lit (by kernel_rfl) (by kernel_rfl) ?_
        repeat (first | go_big_quiet_skip | (go_big_quiet_want; go_big_quiet_op; go_big_quiet_on))
        refine wpQuiet_nil ?_
        intro _ hw'
        obtain ⟨nq, hw''⟩ := hw'
        subst hw''
        go_wp2
        go_roundw
        case rel => exact ⟨k + 1, by omega, by go_num, by rw [confTo_low HP.out], HBN.out _⟩
        case measure => simp [intOf]; omega
    · go_wp2
      go_ret
      exact retI_of (x := confTo ls hs ht k) (by rw [show k = n from by omega]) HBEL.out

set_option maxRecDepth 100000 in
set_option maxHeartbeats 400000 in
theorem conflicts16 (RL m cm R n c : Nat) (ls hs : Nat → List Int) (ht : Nat → Int) (rv : Nat → Bool) (w : World) (hn : n ≤ 4096) (hm : m ≤ 4096) (hRL : RL < w.heap.size) (hR : R < w.heap.size) (hls : ∀ i, i < m → Hash (ls i)) (hhs : ∀ i, i < n → Hash (hs i))
    (hht : ∀ i, i < n → ht i ≤ m) (hL : LogRow w RL m ls) (hW : WatchRow w R n hs ht rv) :
    Calls Try.prog 16 #[.slice (some ⟨RL, 0, none⟩) m cm, .slice (some ⟨R, 0, none⟩) n c] w (RetI w (confTo ls hs ht n)) := by
  have HK : Hid (Calls Try.prog 25 #[.slice (some ⟨RL, 0, none⟩) m cm, .slice (some ⟨R, 0, none⟩) n c] w (RetI w (confTo ls hs ht n))) := conflicts25 RL m cm R n c ls hs ht rv w hn hm hRL hR hls hhs hht hL hW
  clear hhs hW hls hht hL
  go_enter Try.func16, Try.ntmps16
  go_wp2_with (go_at_call 25; refine HK.out.mono ?_)
  rintro e w1 ⟨rfl, hb⟩
  have HB : Hid (Below w.heap.size w w1) := hb
  clear hb
  go_wp2
  go_ret
  exact ⟨rfl, HB.out⟩

end Go.Proofs.Qxb6602710a
