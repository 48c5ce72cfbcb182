/-
  Seat b6602710a: the contract of '(forgottenBy).Add' (26) and of 'ZZForgottenAdd' (22).
-/
import Derived.Test.Qxb6602710aOps
namespace Go.Proofs.Qxb6602710a
open Go.ChangeShapes Go.WideShapes Go.ChangeAt Go.RowKit

/-- z with the bit of 'node' set. -/
def orBit (z : Int) (node : Nat) : Int := bits BinOp.or IntKind.u64 z (IntKind.u64.wrap (2 ^ (node % 64)))
/-- The row at h before the Add: its own, or noughts. -/
def rowOf (S : List (List Int)) (Z : List Int → Nat → Int) (h : List Int) : Nat → Int := if h ∈ S then Z h else fun _ => 0
/-- .. and behind it. -/
def addZ (S : List (List Int)) (Z : List Int → Nat → Int) (h : List Int) (node : Nat) : List Int → Nat → Int :=
  updKey Z h fun i => if i = node / 64 then orBit (rowOf S Z h i) node else rowOf S Z h i

def AddPost (w : World) (b base n words : Nat) (S : List (List Int)) (Z : List Int → Nat → Int) (h : List Int) (node : Nat) (e : Ending) (w' : World) : Prop :=
  e = .returned (.tuple #[]) ∧ Rec w' b base (n + 1) words (addKey S h) (addZ S Z h node) ∧ Below base w w'

theorem below_drewN {B : Nat} {a w : World} (h : Below B a w) (n : Nat) : Below B a (w.drewN n) := ⟨h.os, h.tape, h.output, h.size, h.block⟩

theorem Rec.mono {w : World} {b base n n' words : Nat} {S : List (List Int)} {Z : List Int → Nat → Int} (h : Rec w b base n words S Z) (hn : n ≤ n') : Rec w b base n' words S Z := by
  obtain ⟨D, g, h⟩ := h
  exact ⟨D, g, h.own.mono hn, h.ok, h.nodup, h.has, h.at_, h.size, h.lo, h.row, h.inj⟩

theorem rec_congr {w : World} {b base n words : Nat} {S : List (List Int)} {Z Z' : List Int → Nat → Int} (h : Rec w b base n words S Z) (e : ∀ k ∈ S, ∀ i, i < words → Z k i = Z' k i) : Rec w b base n words S Z' := by
  obtain ⟨D, g, h⟩ := h
  exact ⟨D, g, h.own, h.ok, h.nodup, h.has, h.at_, h.size, h.lo, fun k hk => (h.row k hk).congr fun i hi => by rw [e k hk i hi], h.inj⟩

theorem add_done_has {w : World} {b base n words : Nat} {S : List (List Int)} {Z : List Int → Nat → Int} {D : DataW Unit} {g : List Int → Nat} (hR : RecOf w b base n words S Z D g) {h : List Int} (hk : h ∈ S) (hb : base ≤ w.heap.size) (A B : Obj) (nq node : Nat) :
    AddPost w b base n words S Z h node (.returned (.tuple #[])) ((((w.alloc A).alloc B).drewN nq).setCell ⟨g h, node / 64, none⟩ (.int .u64 (bits BinOp.or IntKind.u64 (Z h (node / 64)) (IntKind.u64.wrap (2 ^ (node % 64)))))) := by
  have hk2 : ∀ i, i < w.heap.size → (((w.alloc A).alloc B).drewN nq).heap[i]? = w.heap[i]? := fun i hi => by
    rw [World.heap_drewN, Below.heap_alloc _ _ _ (by simp; omega), Below.heap_alloc _ _ _ hi]
  have hR' : RecOf (((w.alloc A).alloc B).drewN nq) b base n words S Z D g := hR.kept (hk2 _ hR.own.lt) (fun k hk' => hk2 _ (hR.row k hk').lt)
  refine ⟨rfl, ?_, (below_drewN (((Below.refl base w).alloc hb A).alloc (by simp; omega) B) nq).setCell (hR.lo h hk) _⟩
  have := (hR'.set hk (node / 64) (bits BinOp.or IntKind.u64 (Z h (node / 64)) (IntKind.u64.wrap (2 ^ (node % 64))))).mono (Nat.le_succ n)
  unfold addKey addZ rowOf
  rw [if_pos hk, if_pos hk]
  refine rec_congr this fun k _ i _ => ?_
  unfold updKey orBit
  by_cases e : k = h <;> by_cases e2 : i = node / 64 <;> simp [e, e2]

set_option maxRecDepth 100000 in
set_option maxHeartbeats 400000 in
theorem add26_has (w : World) (p b base n words : Nat) (S : List (List Int)) (Z : List Int → Nat → Int) (h : List Int) (node : Nat) (hR : Rec w b base n words S Z) (hh : Hash h) (hk : h ∈ S) (hnode : node < 64 * words) (hw : words ≤ 16384)
    (hp0 : w.cell? ⟨p, 0, none⟩ = some (.map (some b))) (_hp1 : w.cell? ⟨p, 1, none⟩ = some (.int .i64 words)) (hp : p < w.heap.size) (hb : base ≤ w.heap.size) :
    Calls Try.prog 26 #[.agg #[.pointer (some ⟨p, 0, none⟩), .int .i64 node], .agg (hcs h).toArray] w (AddPost w b base n words S Z h node) := by
  obtain ⟨D, g, hR⟩ := hR
  have hrow := hR.row h hk
  have hc0 : w.cell? ⟨g h, node / 64, none⟩ = some (.int .u64 (Z h (node / 64))) := hrow.cell (by omega)
  have hf0 : w.frozen? ⟨g h, node / 64, none⟩ = false := hrow.frozen _
  have hgl : g h < w.heap.size := hrow.lt
  have HL : Hid (∀ n, (Instr.lookup 44 (.map (some b)) (.agg (hcs h).toArray) true).run Try.prog (((w.alloc (Obj.cells #[Value.pointer (some { block := p, off := 0 }), Value.int IntKind.i64 ↑node] 54)).alloc (Obj.cells (hcs h).toArray 31)).drewN n) =
      .ok (.tuple #[.slice (some ⟨g h, 0, none⟩) words words, .bool true]) (((w.alloc (Obj.cells #[Value.pointer (some { block := p, off := 0 }), Value.int IntKind.i64 ↑node] 54)).alloc (Obj.cells (hcs h).toArray 31)).drewN n)) := by
    intro n
    have hk2 : ∀ i, i < w.heap.size → (((w.alloc (Obj.cells #[Value.pointer (some { block := p, off := 0 }), Value.int IntKind.i64 ↑node] 54)).alloc (Obj.cells (hcs h).toArray 31)).drewN n).heap[i]? = w.heap[i]? := fun i hi => by
      rw [World.heap_drewN, Below.heap_alloc _ _ _ (by simp; omega), Below.heap_alloc _ _ _ hi]
    exact (hR.kept (hk2 _ hR.own.lt) (fun k hk' => hk2 _ (hR.row k hk').lt)).look hk
  have HC : Hid (((w.alloc (Obj.cells #[Value.pointer (some { block := p, off := 0 }), Value.int IntKind.i64 ↑node] 54)).alloc (Obj.cells (hcs h).toArray 31)).rangeAt (w.heap.size + 1) 0 (hcs h)) := by
    have := range_box (w.alloc (Obj.cells #[Value.pointer (some { block := p, off := 0 }), Value.int IntKind.i64 ↑node] 54)) h 31
    show World.rangeAt _ _ _ _
    simpa using this
  have H0 : Hid (∀ A B nq, AddPost w b base n words S Z h node (.returned (.tuple #[])) ((((w.alloc A).alloc B).drewN nq).setCell ⟨g h, node / 64, none⟩ (.int .u64 (bits BinOp.or IntKind.u64 (Z h (node / 64)) (IntKind.u64.wrap (2 ^ (node % 64))))))) :=
    fun A B nq => add_done_has hR hk hb A B nq node
  clear hR hrow
  have hi1 : (0 : Int) ≤ (node : Int) := by omega
  have hi2 : (node : Int) / 64 < (words : Int) := by omega
  go_enter Try.func26, Try.ntmps26
  go_wp2
  refine wp_region_quiet_lit (by kernel_rfl) (by kernel_rfl) ?_
  repeat (first | go_big_quiet_skip | (go_big_quiet_want; first | (refine q_load 31 ht31 (.tmp 3) rfl _ _ rfl h hh.1 HC.out ?_; go_frame; go_big_quiet_on) | (refine q_lookup 44 _ _ true rfl _ _ _ rfl rfl HL.out ?_; go_frame; go_big_quiet_on) | (go_big_quiet_op; go_big_quiet_on)))
  refine wpQuiet_nil ?_
  intro _ hw'
  obtain ⟨nq, hw''⟩ := hw'
  subst hw''
  go_wp2
  go_region
  go_end0
  exact H0.out _ _ _

/-- A block other than the map's is as it was. -/
theorem turned_block {w w' : World} {b i : Nat} (h : w.mapTurned w' b) (hi : i < w.heap.size) (hne : i ≠ b) : w'.heap[i]? = w.heap[i]? := h.grown.block i hi (fun e => hne (by simpa using e))

theorem add_done_new {w w2 W : World} {b base n words r : Nat} {S : List (List Int)} {Z : List Int → Nat → Int} {D' : DataW Unit} {g : List Int → Nat} {h : List Int} (hk : h ∉ S)
    (hR : RecOf w2 b base (n + 1) words (addKey S h) (updKey Z h fun _ => 0) D' (fun x => if x = h then r else g x)) (hB : Below base w W) (hB2 : Below base W w2) (hr : base ≤ r) (m node : Nat) :
    AddPost w b base n words S Z h node (.returned (.tuple #[])) ((w2.drewN m).setCell ⟨r, node / 64, none⟩ (.int .u64 (bits BinOp.or IntKind.u64 0 (IntKind.u64.wrap (2 ^ (node % 64)))))) := by
  have hm : h ∈ addKey S h := mem_addKey.2 (.inl rfl)
  have hR' : RecOf (w2.drewN m) b base (n + 1) words (addKey S h) (updKey Z h fun _ => 0) D' (fun x => if x = h then r else g x) := hR.kept rfl (fun _ _ => rfl)
  refine ⟨rfl, ?_, (below_drewN (hB.trans hB2) m).setCell hr _⟩
  have := hR'.set hm (node / 64) (bits BinOp.or IntKind.u64 0 (IntKind.u64.wrap (2 ^ (node % 64))))
  simp only [if_true] at this
  refine rec_congr this fun k _ i _ => ?_
  unfold addZ rowOf
  rw [if_neg hk]
  unfold updKey orBit
  by_cases e : k = h
  · simp [e]
  · simp [e]

set_option maxRecDepth 100000 in
set_option maxHeartbeats 400000 in
theorem add26_new (w : World) (p b base n words : Nat) (S : List (List Int)) (Z : List Int → Nat → Int) (h : List Int) (node : Nat) (hR : Rec w b base n words S Z) (hh : Hash h) (hk : h ∉ S) (hnode : node < 64 * words) (hw : words ≤ 16384)
    (hp0 : w.cell? ⟨p, 0, none⟩ = some (.map (some b))) (hp1 : w.cell? ⟨p, 1, none⟩ = some (.int .i64 words)) (hp : p < w.heap.size) (hb : base ≤ w.heap.size) (hn : n < maxLen) (hbb : base ≤ b) :
    Calls Try.prog 26 #[.agg #[.pointer (some ⟨p, 0, none⟩), .int .i64 node], .agg (hcs h).toArray] w (AddPost w b base n words S Z h node) := by
  obtain ⟨D, g, hR⟩ := hR
  have HL : Hid (∀ n, (Instr.lookup 44 (.map (some b)) (.agg (hcs h).toArray) true).run Try.prog (((w.alloc (Obj.cells #[Value.pointer (some { block := p, off := 0 }), Value.int IntKind.i64 ↑node] 54)).alloc (Obj.cells (hcs h).toArray 31)).drewN n) =
      .ok (.tuple #[.slice none 0 0, .bool false]) (((w.alloc (Obj.cells #[Value.pointer (some { block := p, off := 0 }), Value.int IntKind.i64 ↑node] 54)).alloc (Obj.cells (hcs h).toArray 31)).drewN n)) := by
    intro n
    have hk2 : ∀ i, i < w.heap.size → (((w.alloc (Obj.cells #[Value.pointer (some { block := p, off := 0 }), Value.int IntKind.i64 ↑node] 54)).alloc (Obj.cells (hcs h).toArray 31)).drewN n).heap[i]? = w.heap[i]? := fun i hi => by
      rw [World.heap_drewN, Below.heap_alloc _ _ _ (by simp; omega), Below.heap_alloc _ _ _ hi]
    exact (hR.kept (hk2 _ hR.own.lt) (fun k hk' => hk2 _ (hR.row k hk').lt)).look_no hh hk
  have HC : Hid (((w.alloc (Obj.cells #[Value.pointer (some { block := p, off := 0 }), Value.int IntKind.i64 ↑node] 54)).alloc (Obj.cells (hcs h).toArray 31)).rangeAt (w.heap.size + 1) 0 (hcs h)) := by
    have := range_box (w.alloc (Obj.cells #[Value.pointer (some { block := p, off := 0 }), Value.int IntKind.i64 ↑node] 54)) h 31
    show World.rangeAt _ _ _ _
    simpa using this
  have H0 : Hid (RecOf w b base n words S Z D g) := hR
  clear hR
  have hi1 : (0 : Int) ≤ (node : Int) := by omega
  have hi2 : (node : Int) / 64 < (words : Int) := by omega
  have hmk : ∀ w, (Instr.makeSlice 43 (.int .i64 words) (.int .i64 words)).run Try.prog w = .ok (.slice (some ⟨w.heap.size, 0, none⟩) words words) (w.alloc (.cells (madeCells #[.int .u64 0] words) 45)) := fun w =>
    run_make_row' 43 45 (.int .u64 0) 8 Try.underlying43 (by kernel_rfl) rfl .i64 .i64 words (by omega) (by omega) w
  go_enter Try.func26, Try.ntmps26
  go_wp2
  refine wp_region_quiet_lit (by kernel_rfl) (by kernel_rfl) ?_
  repeat (first | go_big_quiet_skip | (go_big_quiet_want; first | (refine q_load 31 ht31 (.tmp 3) rfl _ _ rfl h hh.1 HC.out ?_; go_frame; go_big_quiet_on) | (refine q_lookup 44 _ _ true rfl _ _ _ rfl rfl HL.out ?_; go_frame; go_big_quiet_on) | (go_big_quiet_op; go_big_quiet_on)))
  refine wpQuiet_nil ?_
  intro _ hw'
  obtain ⟨nq, hw''⟩ := hw'
  subst hw''
  have hW : ∀ i, i < w.heap.size → ((((w.alloc (Obj.cells #[Value.pointer (some { block := p, off := 0 }), Value.int IntKind.i64 ↑node] 54)).alloc (Obj.cells (hcs h).toArray 31)).drewN nq).alloc (Obj.cells (madeCells #[Value.int IntKind.u64 0] words) 45)).drew.heap[i]? = w.heap[i]? := fun i hi => by
    show ((((w.alloc (Obj.cells #[Value.pointer (some { block := p, off := 0 }), Value.int IntKind.i64 ↑node] 54)).alloc (Obj.cells (hcs h).toArray 31)).drewN nq).alloc (Obj.cells (madeCells #[Value.int IntKind.u64 0] words) 45)).heap[i]? = _
    rw [Below.heap_alloc _ _ _ (by simp; omega), World.heap_drewN, Below.heap_alloc _ _ _ (by simp; omega), Below.heap_alloc _ _ _ hi]
  have hR := H0.out
  have hRW : RecOf ((((w.alloc (Obj.cells #[Value.pointer (some { block := p, off := 0 }), Value.int IntKind.i64 ↑node] 54)).alloc (Obj.cells (hcs h).toArray 31)).drewN nq).alloc (Obj.cells (madeCells #[Value.int IntKind.u64 0] words) 45)).drew b base n words S Z D g := hR.kept (hW _ hR.own.lt) (fun k hk' => hW _ (hR.row k hk').lt)
  have hrow : ((((w.alloc (Obj.cells #[Value.pointer (some { block := p, off := 0 }), Value.int IntKind.i64 ↑node] 54)).alloc (Obj.cells (hcs h).toArray 31)).drewN nq).alloc (Obj.cells (madeCells #[Value.int IntKind.u64 0] words) 45)).drew.rowIs (w.heap.size + 1 + 1) 45 words (fun _ => .int .u64 0) := by
    have := World.rowIs_made (((w.alloc (Obj.cells #[Value.pointer (some { block := p, off := 0 }), Value.int IntKind.i64 ↑node] 54)).alloc (Obj.cells (hcs h).toArray 31)).drewN nq) (.int .u64 0) words 45
    simpa using this.drew
  obtain ⟨w2, hrun2, hturn, hRec2⟩ := hRW.put hn hh (r := w.heap.size + 1 + 1) (by omega) (fun k' hk' => by have := (hR.row k' hk').lt; omega) hrow
  have hbl : b < w.heap.size := hR.own.lt
  have hbw : base ≤ b := hbb
  have hz2 : (((((w.alloc (Obj.cells #[Value.pointer (some { block := p, off := 0 }), Value.int IntKind.i64 ↑node] 54)).alloc (Obj.cells (hcs h).toArray 31)).drewN nq).alloc (Obj.cells (madeCells #[Value.int IntKind.u64 0] words) 45)).drew).heap.size = w.heap.size + 1 + 1 + 1 := by simp
  have t1 := turned_block (i := w.heap.size) hturn (by omega) (by omega)
  have t2 := turned_block (i := w.heap.size + 1 + 1) hturn (by omega) (by omega)
  have f1 : w2.cell? ⟨w.heap.size, 1, none⟩ = some (.int .i64 node) := by
    rw [World.cell?_of_block (w := ((((w.alloc (Obj.cells #[Value.pointer (some { block := p, off := 0 }), Value.int IntKind.i64 ↑node] 54)).alloc (Obj.cells (hcs h).toArray 31)).drewN nq).alloc (Obj.cells (madeCells #[Value.int IntKind.u64 0] words) 45)).drew) t1]
    rw [World.cell?_drew, World.cell?_alloc_lt _ _ _ (by simp; omega), World.cell?_drewN, World.cell?_alloc_lt _ _ _ (by simp), World.cell?_alloc_at _ _ _ _ rfl]
    rfl
  have f0 : ((((w.alloc (Obj.cells #[Value.pointer (some { block := p, off := 0 }), Value.int IntKind.i64 ↑node] 54)).alloc (Obj.cells (hcs h).toArray 31)).drewN nq).alloc (Obj.cells (madeCells #[Value.int IntKind.u64 0] words) 45)).cell? ⟨p, 0, none⟩ = some (.map (some b)) := by
    rw [World.cell?_alloc_lt _ _ _ (by simp; omega), World.cell?_drewN, World.cell?_alloc_lt _ _ _ (by simp; omega), World.cell?_alloc_lt _ _ _ hp]
    exact hp0
  have hrow2 := hrow.of_block t2
  have f2 : w2.cell? ⟨w.heap.size + 1 + 1, node / 64, none⟩ = some (.int .u64 0) := hrow2.cell (by omega)
  have f3 : w2.frozen? ⟨w.heap.size + 1 + 1, node / 64, none⟩ = false := hrow2.frozen _
  have hB1 : Below base w ((((w.alloc (Obj.cells #[Value.pointer (some { block := p, off := 0 }), Value.int IntKind.i64 ↑node] 54)).alloc (Obj.cells (hcs h).toArray 31)).drewN nq).alloc (Obj.cells (madeCells #[Value.int IntKind.u64 0] words) 45)).drew := ((below_drewN (((Below.refl base w).alloc hb _).alloc (by simp; omega) _) nq).alloc (by simp; omega) _).drew
  have hB2 : Below base ((((w.alloc (Obj.cells #[Value.pointer (some { block := p, off := 0 }), Value.int IntKind.i64 ↑node] 54)).alloc (Obj.cells (hcs h).toArray 31)).drewN nq).alloc (Obj.cells (madeCells #[Value.int IntKind.u64 0] words) 45)).drew w2 := (Below.refl _ _).grown hturn.grown (by omega) (fun k e => by cases e; exact hbb)
  have HF : Hid (∀ m, AddPost w b base n words S Z h node (.returned (.tuple #[])) ((w2.drewN m).setCell ⟨w.heap.size + 1 + 1, node / 64, none⟩ (.int .u64 (bits BinOp.or IntKind.u64 0 (IntKind.u64.wrap (2 ^ (node % 64))))))) :=
    fun m => add_done_new hk hRec2 hB1 hB2 (by omega) m node
  have HR2 : Hid ((Instr.mapUpdate 44 (.map (some b)) (.agg (hcs h).toArray) (.slice (some ⟨w.heap.size + 1 + 1, 0, none⟩) words words)).run Try.prog ((((w.alloc (Obj.cells #[Value.pointer (some { block := p, off := 0 }), Value.int IntKind.i64 ↑node] 54)).alloc (Obj.cells (hcs h).toArray 31)).drewN nq).alloc (Obj.cells (madeCells #[Value.int IntKind.u64 0] words) 45)).drew = .ok () w2) := hrun2
  have HC2 : Hid (((((w.alloc (Obj.cells #[Value.pointer (some { block := p, off := 0 }), Value.int IntKind.i64 ↑node] 54)).alloc (Obj.cells (hcs h).toArray 31)).drewN nq).alloc (Obj.cells (madeCells #[Value.int IntKind.u64 0] words) 45)).drew.rangeAt (w.heap.size + 1) 0 (hcs h)) := by
    show World.rangeAt _ _ _ _
    rw [World.rangeAt_drew]
    exact World.rangeAt_alloc (rangeAt_drewN HC.out nq) _
  clear hW hR hRW hrow hrun2 hturn hRec2 hz2 t1 t2 hrow2 hB1 hB2 hbl hbw
  go_wp2
  refine region_tail 7 (by kernel_rfl) (by kernel_rfl) _ _ rfl rfl ?_
  simp only [List.take_succ_cons, List.take_zero, List.drop_succ_cons, List.drop_zero]
  repeat (first | (refine s_load rfl 31 ht31 (.tmp 3) rfl _ _ rfl h hh.1 HC2.out ?_; go_frame) | still_step)
  refine wpStill_nil ?_
  refine wl_mapUpdate rfl 44 _ _ _ rfl _ _ _ rfl rfl rfl w2 HR2.out ?_
  simp only [Act.put]
  go_wp2
  go_region
  go_end0
  exact HF.out _

theorem add26 (w : World) (p b base n words : Nat) (S : List (List Int)) (Z : List Int → Nat → Int) (h : List Int) (node : Nat) (hR : Rec w b base n words S Z) (hh : Hash h) (hnode : node < 64 * words) (hw : words ≤ 16384)
    (hp0 : w.cell? ⟨p, 0, none⟩ = some (.map (some b))) (hp1 : w.cell? ⟨p, 1, none⟩ = some (.int .i64 words)) (hp : p < w.heap.size) (hb : base ≤ w.heap.size) (hn : n < maxLen) (hbb : base ≤ b) :
    Calls Try.prog 26 #[.agg #[.pointer (some ⟨p, 0, none⟩), .int .i64 node], .agg (hcs h).toArray] w (AddPost w b base n words S Z h node) := by
  by_cases hk : h ∈ S
  · exact add26_has w p b base n words S Z h node hR hh hk hnode hw hp0 hp1 hp hb
  · exact add26_new w p b base n words S Z h node hR hh hk hnode hw hp0 hp1 hp hb hn hbb

set_option maxRecDepth 100000 in
set_option maxHeartbeats 400000 in
theorem add22 (w : World) (b base n words : Nat) (S : List (List Int)) (Z : List Int → Nat → Int) (h : List Int) (node : Nat) (hR : Rec w b base n words S Z) (hh : Hash h) (hnode : node < 64 * words) (hw : words ≤ 16384)
    (hb : base ≤ w.heap.size) (hn : n < maxLen) (hbb : base ≤ b) :
    Calls Try.prog 22 #[.map (some b), .int .i64 words, .int .i64 node, .agg (hcs h).toArray] w (AddPost w b base n words S Z h node) := by
  have HC : Hid (((w.alloc (Obj.cells (hcs h).toArray 31)).alloc (Obj.cells #[Value.map (some b), Value.int IntKind.i64 ↑words] 52)).rangeAt w.heap.size 0 (hcs h)) :=
    World.rangeAt_alloc (range_box w h 31) _
  have HA : Hid (∀ e w', AddPost ((w.alloc (Obj.cells (hcs h).toArray 31)).alloc (Obj.cells #[Value.map (some b), Value.int IntKind.i64 ↑words] 52)) b base n words S Z h node e w' → AddPost w b base n words S Z h node e w') :=
    fun e w' ⟨h1, h2, h3⟩ => ⟨h1, h2, (((Below.refl base w).alloc hb _).alloc (by simp; omega) _).trans h3⟩
  have HK : Hid (Calls Try.prog 26 #[.agg #[.pointer (some ⟨w.heap.size + 1, 0, none⟩), .int .i64 node], .agg (hcs h).toArray] ((w.alloc (Obj.cells (hcs h).toArray 31)).alloc (Obj.cells #[Value.map (some b), Value.int IntKind.i64 ↑words] 52))
      (AddPost ((w.alloc (Obj.cells (hcs h).toArray 31)).alloc (Obj.cells #[Value.map (some b), Value.int IntKind.i64 ↑words] 52)) b base n words S Z h node)) :=
    add26 _ (w.heap.size + 1) b base n words S Z h node ((hR.alloc _).alloc _) hh hnode hw (by rw [World.cell?_alloc_at _ _ _ _ (by simp)]; rfl) (by rw [World.cell?_alloc_at _ _ _ _ (by simp)]; rfl) (by simp) (by simp; omega) hn hbb
  clear hR
  go_enter Try.func22, Try.ntmps22
  go_wp2_with (first | (refine wl_load rfl 31 ht31 (.tmp 7) rfl _ _ rfl h hh.1 HC.out ?_) | (go_at_call 26; refine HK.out.mono ?_))
  rintro e w' hp
  obtain ⟨rfl, -⟩ := id hp
  have HP : Hid (AddPost w b base n words S Z h node (.returned (.tuple #[])) w') := HA.out _ _ hp
  clear hp
  go_wp2
  go_end0
  exact HP.out

end Go.Proofs.Qxb6602710a
