/-
  Seat b6602710a: commitWatch values; the contracts of 'ZZMakeCommitWatch' (14), 'zzWatches' (12), 'longest' (24), 'ZZLongest' (11).
-/
import Derived.Test.Qxb6602710aOpen2
import Derived.Deep.RegionHeld3
import Derived.Deep.DrawnRows
namespace Go.Proofs.Qxb6602710a
open Go.ChangeShapes Go.WideShapes Go.ChangeAt Go.RowKit

/-- The 34 cells of a commitWatch. -/
def wcs (h : List Int) (x : Int) (r : Bool) : List Value := hcs h ++ [.int .i64 x, .bool r]

theorem wcs_length {h : List Int} (hl : h.length = 32) (x : Int) (r : Bool) : (wcs h x r).length = 34 := by simp [wcs, hcs_length, hl]
theorem wcs_oneCell (h : List Int) (x : Int) (r : Bool) : ∀ v ∈ wcs h x r, v.oneCell' = true := by
  intro v hv
  simp only [wcs, List.mem_append, List.mem_cons, List.not_mem_nil, or_false] at hv
  rcases hv with hv | rfl | rfl
  · exact hcs_oneCell h v hv
  · rfl
  · rfl

theorem range32 {h : List Int} (hl : h.length = 32) : h = (List.range 32).map fun i => h.getD i 0 := by
  apply List.ext_getElem?
  intro i
  by_cases hi : i < 32
  · simp [hi, List.getD, List.getElem?_eq_getElem (show i < h.length by omega)]
  · rw [List.getElem?_eq_none (by omega), List.getElem?_eq_none (by simp; omega)]

theorem build33_f (f : Nat → Int) (x : Int) (r : Bool) (w : World) :
    (Instr.build 33 #[(0, .agg (hcs ((List.range 32).map f)).toArray), (1, .int .i64 x), (2, .bool r)]).run Try.prog w = .ok (.agg (wcs ((List.range 32).map f) x r).toArray) w := by kernel_rfl

theorem build33 {h : List Int} (hl : h.length = 32) (x : Int) (r : Bool) (w : World) :
    (Instr.build 33 #[(0, .agg (hcs h).toArray), (1, .int .i64 x), (2, .bool r)]).run Try.prog w = .ok (.agg (wcs h x r).toArray) w := by
  have := build33_f (fun i => h.getD i 0) x r w
  rwa [← range32 hl] at this

theorem Try.und33 : ∃ fs, Try.prog.underlying 33 = some (.struct fs) := ⟨_, Try.underlying33⟩
theorem Try.sz33 : (Try.prog.info? 33).map (·.size) = some 34 := by kernel_rfl

section
variable {o : Oper} {a : Act} {w : World}
theorem exec_load33 (x : Operand) (ho : o.op = .load 33 x) (b off : Nat) (hx : a.eval x = .pointer (some ⟨b, off, none⟩)) (cs : List Value) (hl : cs.length = 34) (hc : w.rangeAt b off cs) :
    (execOp a.eval o).run Try.prog w = .ok (.value (.agg cs.toArray)) w := by
  obtain ⟨fs, hu⟩ := Try.und33
  have := run_loadVar_mid (P := Try.prog) w b off 33 cs _ hc hu rfl (by rw [Try.sz33, hl])
  unfold execOp
  simp only [ho, hx, Instr.loadAt, Instr.sureAddr, Sem.run_bind, Sem.run_pure, Result.andThen_ok, this]
theorem exec_store33 (x y : Operand) (ho : o.op = .store 33 x y) (b off : Nat) (hx : a.eval x = .pointer (some ⟨b, off, none⟩)) (cs : List Value) (hy : a.eval y = .agg cs.toArray) (hl : cs.length = 34) (h1 : ∀ v ∈ cs, v.oneCell' = true) (ht : w.there b off 34) :
    (execOp a.eval o).run Try.prog w = .ok .skip (w.setCells b off cs) := by
  have := run_storeVar_mid (P := Try.prog) w b off 33 cs.toArray (by simpa [hl] using ht) (by rw [Try.sz33]; simp [hl]) (all_oneCell_toArray h1)
  unfold execOp
  simp only [ho, hx, hy, Instr.storeAt, Instr.sureAddr, Sem.run_bind, Sem.run_pure, Result.andThen_ok, this]
theorem wl_load33 {ops : Array Oper} {rest : List Oper} {Q : Exit → Act → World → Prop} (hg : o.guard = none) (x : Operand) (ho : o.op = .load 33 x) (b off : Nat) (hx : a.eval x = .pointer (some ⟨b, off, none⟩)) (cs : List Value) (hl : cs.length = 34) (hc : w.rangeAt b off cs)
    (hk : wpList Try.prog ops Q rest (a.put o.dst (.agg cs.toArray)) w) : wpList Try.prog ops Q (o :: rest) a w :=
  wl_val hg _ (exec_load33 x ho b off hx cs hl hc) hk
theorem wl_store33 {ops : Array Oper} {rest : List Oper} {Q : Exit → Act → World → Prop} (hg : o.guard = none) (x y : Operand) (ho : o.op = .store 33 x y) (b off : Nat) (hx : a.eval x = .pointer (some ⟨b, off, none⟩)) (cs : List Value) (hy : a.eval y = .agg cs.toArray) (hl : cs.length = 34) (h1 : ∀ v ∈ cs, v.oneCell' = true) (ht : w.there b off 34)
    (hk : wpList Try.prog ops Q rest (a.put o.dst undef) (w.setCells b off cs)) : wpList Try.prog ops Q (o :: rest) a w :=
  wl_unit hg _ (exec_store33 x y ho b off hx cs hy hl h1 ht) hk
end

/-- A new block of cells: they are there, and may be written. -/
theorem there_new (w : World) (C : Array Value) (t : TypeId) (off n : Nat) (h : off + n ≤ C.size) : (w.alloc (.cells C t)).there w.heap.size off n := fun j hj => by
  rw [World.cell?_alloc_at _ _ _ _ rfl, World.frozen?_alloc_at _ _ _ _ rfl, Array.getElem?_eq_getElem (by omega)]
  exact ⟨rfl, rfl⟩

theorem below_setCells {B : Nat} {a w : World} (h : Below B a w) {b : Nat} (hb : B ≤ b) : ∀ (vs : List Value) (o : Nat), Below B a (w.setCells b o vs)
  | [], _ => h
  | v :: vs, o => by
    rw [World.setCells]
    exact below_setCells (h.setCell (p := ⟨b, o, none⟩) hb v) hb vs (o + 1)

theorem size_setCells (b : Nat) : ∀ (vs : List Value) (o : Nat) (w : World), (w.setCells b o vs).heap.size = w.heap.size
  | [], _, _ => rfl
  | v :: vs, o, w => by rw [World.setCells, size_setCells b vs]; simp [World.setCell]

/-- What 14 leaves: the value; nothing old has turned. -/
def Made (w : World) (h : List Int) (x : Int) (r : Bool) (e : Ending) (w' : World) : Prop := e = .returned (.agg (wcs h x r).toArray) ∧ Below w.heap.size w w'

theorem wl_build33 {o : Oper} {a : Act} {w : World} {ops : Array Oper} {rest : List Oper} {Q : Exit → Act → World → Prop} (hg : o.guard = none) (x y z : Operand) (ho : o.op = .build 33 #[(0, x), (1, y), (2, z)]) (h : List Int) (n : Int) (r : Bool)
    (hx : a.eval x = .agg (hcs h).toArray) (hy : a.eval y = .int .i64 n) (hz : a.eval z = .bool r) (hl : h.length = 32)
    (hk : wpList Try.prog ops Q rest (a.put o.dst (.agg (wcs h n r).toArray)) w) : wpList Try.prog ops Q (o :: rest) a w :=
  wl_val hg _ (by unfold execOp; simp only [ho]; simp only [List.map_toArray, List.map_cons, List.map_nil, hx, hy, hz, Sem.run_bind, Sem.run_pure, Result.andThen_ok, build33 hl]) hk

theorem results_cell33 {fn : Func} {t : Tmp} (h : fn.results = #[.cell t 33]) {tmps : Array Value} {w : World} {b off : Nat} (ht : tmps.getD t undef = .pointer (some ⟨b, off, none⟩)) {cs : List Value} (hl : cs.length = 34) (hc : w.rangeAt b off cs) :
    (results fn tmps).run Try.prog w = .ok (.agg cs.toArray) w := by
  obtain ⟨fs, hu⟩ := Try.und33
  have := run_loadVar_mid (P := Try.prog) w b off 33 cs _ hc hu rfl (by rw [Try.sz33, hl])
  have ht' : tmps[t]?.getD undef = .pointer (some ⟨b, off, none⟩) := by simpa using ht
  unfold results
  rw [h]
  simp [ht', asAddr, this]

set_option maxRecDepth 100000 in
set_option maxHeartbeats 400000 in
theorem make14 (h : List Int) (hh : Hash h) (x : Int) (r : Bool) (w : World) : Calls Try.prog 14 #[.agg (hcs h).toArray, .int .i64 x, .bool r] w (Made w h x r) := by
  have HC : Hid (∀ C, ((w.alloc (Obj.cells (hcs h).toArray 31)).alloc (Obj.cells C 33)).rangeAt w.heap.size 0 (hcs h)) := fun C => World.rangeAt_alloc (range_box w h 31) _
  have HT : Hid (∀ C : Array Value, C.size = 34 → ((w.alloc (Obj.cells (hcs h).toArray 31)).alloc (Obj.cells C 33)).there (w.heap.size + 1) 0 34) := fun C hC => by
    have := there_new (w.alloc (Obj.cells (hcs h).toArray 31)) C 33 0 34 (by omega)
    simpa using this
  go_enter Try.func14, Try.ntmps14
  go_wp2_with (first | (refine wl_load rfl 31 ht31 (.tmp 3) rfl _ _ rfl h hh.1 (HC.out _) ?_) | (refine wl_build33 rfl _ _ _ rfl h x r rfl rfl rfl hh.1 ?_) | (refine wl_store33 rfl (.tmp 6) (.tmp 10) rfl _ _ rfl (wcs h x r) rfl (wcs_length hh.1 x r) (wcs_oneCell h x r) (HT.out _ rfl) ?_))
  simp only [Act.put]
  refine bodyPost_ret (results_cell33 Try.results14 rfl (wcs_length hh.1 x r) (World.rangeAt_setCells_same _ _ _ _ (by rw [wcs_length hh.1 x r]; exact HT.out _ rfl))) rfl ⟨rfl, below_setCells (((Below.refl _ _).alloc (Nat.le_refl _) _).alloc (by simp) _) (by omega) _ _⟩

/-- A slice of n commitWatches in block R. -/
def WatchRow (w : World) (R n : Nat) (hs : Nat → List Int) (ht : Nat → Int) (rv : Nat → Bool) : Prop := ∀ i, i < n → w.rangeAt R (i * 34) (wcs (hs i) (ht i) (rv i))

def Watches (w : World) (n : Nat) (hs : Nat → List Int) (ht : Nat → Int) (rv : Nat → Bool) (e : Ending) (w' : World) : Prop :=
  ∃ R, e = .returned (.slice (some ⟨R, 0, none⟩) n n) ∧ w.heap.size ≤ R ∧ R < w'.heap.size ∧ WatchRow w' R n hs ht rv ∧ Below w.heap.size w w'

theorem make27 (n : Nat) (hn : n ≤ 100000) : ∃ C : Array Value, C.size = n * 34 ∧ ∀ w, (Instr.makeSlice 27 (.int .i64 n) (.int .i64 n)).run Try.prog w = .ok (.slice (some ⟨w.heap.size, 0, none⟩) n n) (w.alloc (.cells C 33)) := by
  obtain ⟨i, hi, hz, hs, hb⟩ : ∃ i, Try.prog.info? 33 = some i ∧ (∃ z, i.zero = some z) ∧ i.size = 34 ∧ i.bytes = 48 := by
    have h : (Try.prog.info? 33).map (fun i => (i.zero.isSome, i.size, i.bytes)) = some (true, 34, 48) := by kernel_rfl
    obtain ⟨i, hi, he⟩ := Option.map_eq_some_iff.1 h
    simp only [Prod.mk.injEq] at he
    exact ⟨i, hi, Option.isSome_iff_exists.1 he.1, he.2.1, he.2.2⟩
  obtain ⟨z, hz⟩ := hz
  refine ⟨madeCells z.cells (n * 34), size_madeCells _ _, fun w => ?_⟩
  have := run_make (P := Try.prog) w 27 33 i z Try.underlying27 hi hz .i64 .i64 n n (by omega) (Int.le_refl _) (by rw [hb]; omega) (by omega)
  simpa [hs] using this

theorem run_storeW {cs : List Value} (hl : cs.length = 34) (h1 : ∀ v ∈ cs, v.oneCell' = true) (b off : Nat) (w : World) (ht : w.there b off 34) : (storeCells ⟨b, off, none⟩ cs).run Try.prog w = .ok () (w.setCells b off cs) := by
  have := run_storeCells_cells (P := Try.prog) b off cs 0 w (fun j hj => by simpa using (ht j (by omega)).1) (fun j hj => by simpa using (ht j (by omega)).2) h1
  simpa using this

/-- What the round's statement reads and writes stays while a call makes memory. -/
theorem keep_call {wr w1 : World} {b0 o0 b1 o1 b2 o2 R off n : Nat} {cs : List Value} {v1 v2 : Value} (hbw : Below wr.drew.heap.size wr.drew w1) (h0 : b0 < wr.heap.size) (h1 : b1 < wr.heap.size) (h2 : b2 < wr.heap.size) (h3 : R < wr.heap.size)
    (s0 : wr.rangeAt b0 o0 cs) (s1 : wr.cell? ⟨b1, o1, none⟩ = some v1) (s2 : wr.cell? ⟨b2, o2, none⟩ = some v2) (s3 : wr.there R off n) :
    w1.rangeAt b0 o0 cs ∧ w1.cell? ⟨b1, o1, none⟩ = some v1 ∧ w1.cell? ⟨b2, o2, none⟩ = some v2 ∧ w1.there R off n :=
  ⟨fun q v hv => by rw [hbw.cell (p := ⟨b0, o0 + q, none⟩) h0]; exact s0 q v hv, by rw [hbw.cell (p := ⟨b1, o1, none⟩) h1]; exact s1, by rw [hbw.cell (p := ⟨b2, o2, none⟩) h2]; exact s2,
    fun j hj => by rw [hbw.cell (p := ⟨R, off + j, none⟩) h3, hbw.frozen (p := ⟨R, off + j, none⟩) h3]; exact s3 j hj⟩
/-- .. and while other cells are written. -/
theorem keep_store {wr : World} {b0 o0 b1 o1 b2 o2 R off n : Nat} {cs vs : List Value} {v1 v2 : Value} (h0 : b0 ≠ R) (h1 : b1 ≠ R) (h2 : b2 ≠ R)
    (s0 : wr.rangeAt b0 o0 cs) (s1 : wr.cell? ⟨b1, o1, none⟩ = some v1) (s2 : wr.cell? ⟨b2, o2, none⟩ = some v2) (s3 : wr.there R off n) :
    (wr.setCells R off vs).rangeAt b0 o0 cs ∧ (wr.setCells R off vs).cell? ⟨b1, o1, none⟩ = some v1 ∧ (wr.setCells R off vs).cell? ⟨b2, o2, none⟩ = some v2 ∧ (wr.setCells R off vs).there R off n :=
  ⟨World.rangeAt_setCells_apart s0 _ _ _ (.inl h0), by rw [World.cell?_setCells_out R vs off wr ⟨b1, o1, none⟩ (fun e => absurd e h1)]; exact s1, by rw [World.cell?_setCells_out R vs off wr ⟨b2, o2, none⟩ (fun e => absurd e h2)]; exact s2,
    World.there_setCells s3 _ _ _⟩

set_option maxRecDepth 100000 in
set_option maxHeartbeats 2000000 in
theorem watches12 (b0 o0 c0 b1 o1 c1 b2 o2 c2 n : Nat) (hs : Nat → List Int) (ht : Nat → Int) (rv : Nat → Bool) (w : World) (hn : n ≤ 4096)
    (hhs : ∀ i, i < n → Hash (hs i)) (hb0 : b0 < w.heap.size) (hb1 : b1 < w.heap.size) (hb2 : b2 < w.heap.size)
    (hc0 : ∀ i, i < n → w.rangeAt b0 (o0 + i * 32) (hcs (hs i))) (hc1 : ∀ i, i < n → w.cell? ⟨b1, o1 + i, none⟩ = some (.int .i64 (ht i))) (hc2 : ∀ i, i < n → w.cell? ⟨b2, o2 + i, none⟩ = some (.bool (rv i))) :
    Calls Try.prog 12 #[.slice (some ⟨b0, o0, none⟩) n c0, .slice (some ⟨b1, o1, none⟩) n c1, .slice (some ⟨b2, o2, none⟩) n c2] w (Watches w n hs ht rv) := by
  obtain ⟨C, hC, hmk⟩ := make27 n (by omega)
  have HHS : Hid (∀ i, i < n → Hash (hs i)) := hhs
  have H0 : Hid (∀ i, i < n → w.rangeAt b0 (o0 + i * 32) (hcs (hs i))) := hc0
  have H1 : Hid (∀ i, i < n → w.cell? ⟨b1, o1 + i, none⟩ = some (.int .i64 (ht i))) := hc1
  have H2 : Hid (∀ i, i < n → w.cell? ⟨b2, o2 + i, none⟩ = some (.bool (rv i))) := hc2
  have HC : Hid (C.size = n * 34) := hC
  clear hhs hc0 hc1 hc2 hC
  go_enter Try.func12, Try.ntmps12
  go_wp2
  clear hmk
  go_loopw [8] (fun i wr => ∃ k : Nat, k ≤ n ∧ i = .int .i64 k ∧ WatchRow wr w.heap.size k hs ht rv ∧ wr.there w.heap.size 0 (n * 34) ∧ Below w.heap.size w wr ∧ w.heap.size < wr.heap.size) (fun i _ => n - (intOf i).toNat)
  case atStart => exact ⟨0, Nat.zero_le _, rfl, fun i hi => absurd hi (Nat.not_lt_zero _), there_new w C 33 0 (n * 34) (by rw [HC.out]; omega), (Below.refl _ _).alloc (Nat.le_refl _) _, by simp⟩
  case round =>
    obtain ⟨k, hk, rfl, hrow, hthere, hbel, hlt0⟩ := hrel
    have HROW : Hid (WatchRow wr w.heap.size k hs ht rv) := hrow
    have HTH : Hid (wr.there w.heap.size 0 (n * 34)) := hthere
    have HBEL : Hid (Below w.heap.size w wr) := hbel
    clear hrow hthere hbel
    by_cases hlt : k < n
    · have s0 : wr.rangeAt b0 (o0 + k * 32) (hcs (hs k)) := fun q v hv => by
        rw [HBEL.out.cell (p := ⟨b0, o0 + k * 32 + q, none⟩) hb0]; exact H0.out k hlt q v hv
      have s1 : wr.cell? ⟨b1, o1 + k, none⟩ = some (.int .i64 (ht k)) := by rw [HBEL.out.cell (p := ⟨b1, o1 + k, none⟩) hb1]; exact H1.out k hlt
      have s2 : wr.cell? ⟨b2, o2 + k, none⟩ = some (.bool (rv k)) := by rw [HBEL.out.cell (p := ⟨b2, o2 + k, none⟩) hb2]; exact H2.out k hlt
      have s3 : wr.there w.heap.size (k * 34) 34 := fun j hj => by have := HTH.out (k * 34 + j) (by omega); simpa using this
      have hk0 : (0 : Int) ≤ (k : Int) := Int.natCast_nonneg _
      have hkn : (k : Int) < (n : Int) := by omega
      have hHk := HHS.out k hlt
      have hu := Try.underlying29
      have hl : (hcs (hs k)).length = 32 := by rw [hcs_length, hHk.1]
      have hi : (Try.prog.info? 29).map (·.size) = some (hcs (hs k)).length := by rw [Try.sz29, hl]
      have h1 := hcs_oneCell (hs k)
      obtain ⟨fs33, hu33⟩ := Try.und33
      have hl33 : (wcs (hs k) (ht k) (rv k)).length = 34 := wcs_length hHk.1 _ _
      have hi33 : (Try.prog.info? 33).map (·.size) = some (wcs (hs k) (ht k) (rv k)).length := by rw [Try.sz33, hl33]
      have h33 := wcs_oneCell (hs k) (ht k) (rv k)
      have hst := run_storeW hl33 h33 w.heap.size (k * 34)
      go_wp2
      go_region_held3 (fun w' => w'.rangeAt b0 (o0 + k * 32) (hcs (hs k)) ∧ w'.cell? ⟨b1, o1 + k, none⟩ = some (.int .i64 (ht k)) ∧ w'.cell? ⟨b2, o2 + k, none⟩ = some (.bool (rv k)) ∧ w'.there w.heap.size (k * 34) 34)
        (first | exact ⟨s0, s1, s2, s3⟩ | exact keep_call hbw (by omega) (by omega) (by omega) hlt0 s0 s1 s2 s3 | (go_split_ands; exact keep_store (by omega) (by omega) (by omega) (by assumption) (by assumption) (by assumption) (by assumption)))
        ((go_at_call 14; refine (make14 (hs k) hHk (ht k) (rv k) _).mono ?_; rintro e w1 ⟨rfl, hbw⟩))
      have HBW : Hid (Below wr.heap.size wr w1) := ⟨hbw.os, hbw.tape, hbw.output, hbw.size, hbw.block⟩
      have hsz1 : wr.heap.size ≤ w1.heap.size := hbw.size
      have HTK : Hid (wr.there w.heap.size (k * 34) 34) := s3
      have HHK : Hid (Hash (hs k)) := hHk
      rename_i hHeld
      clear hHeld hbw s0 s1 s2 s3 hHk hu hl hi h1 hu33 hl33 hi33 h33 hst
      have HT1 : Hid (w1.there w.heap.size (k * 34) 34) := fun j hj => by
        rw [HBW.out.cell (p := ⟨w.heap.size, k * 34 + j, none⟩) hlt0, HBW.out.frozen (p := ⟨w.heap.size, k * 34 + j, none⟩) hlt0]
        exact HTK.out j hj
      go_wp2
      go_roundw
      case rel => exact ⟨k + 1, by omega, by go_num, fun i hi => by
          rcases Nat.lt_succ_iff_lt_or_eq.1 hi with h | rfl
          · refine World.rangeAt_setCells_apart (fun q v hv => ?_) _ _ _ (by rw [wcs_length (HHS.out i (by omega)).1, wcs_length HHK.out.1]; omega)
            rw [HBW.out.cell (p := ⟨w.heap.size, i * 34 + q, none⟩) hlt0]
            exact HROW.out i h q v hv
          · exact World.rangeAt_setCells_same _ _ _ _ (by rw [wcs_length HHK.out.1]; exact HT1.out),
        World.there_setCells (fun j hj => by
          rw [HBW.out.cell (p := ⟨w.heap.size, 0 + j, none⟩) hlt0, HBW.out.frozen (p := ⟨w.heap.size, 0 + j, none⟩) hlt0]
          exact HTH.out j hj) _ _ _,
        below_setCells (HBEL.out.trans (HBW.out.mono (by omega))) (Nat.le_refl _) _ _, by rw [size_setCells]; omega⟩
      case measure => simp [intOf]; omega
    · go_wp2
      go_ret
      exact ⟨w.heap.size, rfl, Nat.le_refl _, hlt0, by rw [show n = k from by omega]; exact HROW.out, HBEL.out⟩

set_option maxRecDepth 100000 in
set_option maxHeartbeats 400000 in
theorem watches12_nil (a0 : Option Addr) (c0 : Nat) (a1 : Option Addr) (c1 : Nat) (a2 : Option Addr) (c2 : Nat) (hs : Nat → List Int) (ht : Nat → Int) (rv : Nat → Bool) (w : World) :
    Calls Try.prog 12 #[.slice a0 0 c0, .slice a1 0 c1, .slice a2 0 c2] w (Watches w 0 hs ht rv) := by
  obtain ⟨C, hC, hmk⟩ := make27 0 (by omega)
  have HF : Hid (Watches w 0 hs ht rv (.returned (.slice (some ⟨w.heap.size, 0, none⟩) 0 0)) (w.alloc (.cells C 33))) := ⟨w.heap.size, rfl, Nat.le_refl _, by simp, fun i hi => absurd hi (Nat.not_lt_zero _), (Below.refl _ _).alloc (Nat.le_refl _) _⟩
  simp only [Int.natCast_zero] at hmk
  clear hC
  go_enter Try.func12, Try.ntmps12
  go_wp2
  go_loop [8] (fun i => i = .int .i64 0) (fun _ => 0)
  case atStart => rfl
  case round =>
    obtain rfl := hrel
    go_wp2
    go_ret
    exact HF.out

theorem watches (a0 : Option Addr) (c0 : Nat) (a1 : Option Addr) (c1 : Nat) (a2 : Option Addr) (c2 : Nat) (n : Nat) (hs : Nat → List Int) (ht : Nat → Int) (rv : Nat → Bool) (w : World) (hn : n ≤ 4096)
    (hK : IsHashes w a0 n hs) (h1 : IsCells w a1 n fun i => .int .i64 (ht i)) (h2 : IsCells w a2 n fun i => .bool (rv i)) :
    Calls Try.prog 12 #[.slice a0 n c0, .slice a1 n c1, .slice a2 n c2] w (Watches w n hs ht rv) := by
  by_cases h0 : n < 1
  · obtain rfl : n = 0 := by omega
    exact watches12_nil a0 c0 a1 c1 a2 c2 hs ht rv w
  · rcases hK.2 with h | ⟨b0, o0, rfl, hb0, hc0⟩
    · exact absurd h h0
    · rcases h1 with h | ⟨b1, o1, rfl, hb1, hc1⟩
      · exact absurd h h0
      · rcases h2 with h | ⟨b2, o2, rfl, hb2, hc2⟩
        · exact absurd h h0
        · exact watches12 b0 o0 c0 b1 o1 c1 b2 o2 c2 n hs ht rv w hn hK.1 hb0 hb1 hb2 hc0 hc1 hc2

/-! ### longest -/
/-- The first of the highest among the first k. -/
def longIdx (ht : Nat → Int) : Nat → Nat
  | 0 => 0
  | k + 1 => if ht (longIdx ht k) < ht k then k else longIdx ht k

theorem longIdx_lt (ht : Nat → Int) : ∀ k, 0 < k → longIdx ht k < k
  | 0, h => absurd h (Nat.lt_irrefl _)
  | k + 1, _ => by
    unfold longIdx
    split
    · omega
    · by_cases h : 0 < k
      · have := longIdx_lt ht k h; omega
      · obtain rfl : k = 0 := by omega
        simp [longIdx]

theorem longIdx_le (ht : Nat → Int) (k : Nat) : longIdx ht k ≤ k := by
  by_cases h : 0 < k
  · exact Nat.le_of_lt (longIdx_lt ht k h)
  · obtain rfl : k = 0 := by omega
    exact Nat.le_refl _

theorem longIdx_up {ht : Nat → Int} {k : Nat} (h : ht (longIdx ht k) < ht k) : longIdx ht (k + 1) = k := by
  show (if ht (longIdx ht k) < ht k then k else longIdx ht k) = k
  rw [if_pos h]
theorem longIdx_stay {ht : Nat → Int} {k : Nat} (h : ht k ≤ ht (longIdx ht k)) : longIdx ht (k + 1) = longIdx ht k := by
  show (if ht (longIdx ht k) < ht k then k else longIdx ht k) = _
  rw [if_neg (by omega)]

theorem wcs_height {h : List Int} (hl : h.length = 32) (x : Int) (r : Bool) : (wcs h x r)[32]? = some (.int .i64 x) := by
  unfold wcs
  rw [List.getElem?_append_right (by rw [hcs_length, hl]; exact Nat.le_refl _), hcs_length, hl]
  rfl

/-- A store of a commitWatch into the newest block: the world behind it a letter. -/
theorem wl_store33_new {o : Oper} {a : Act} {w : World} {ops : Array Oper} {rest : List Oper} {Q : Exit → Act → World → Prop} (hg : o.guard = none) (x y : Operand) (ho : o.op = .store 33 x y) (b : Nat) (hx : a.eval x = .pointer (some ⟨b, 0, none⟩)) (cs : List Value) (hy : a.eval y = .agg cs.toArray) (hl : cs.length = 34) (h1 : ∀ v ∈ cs, v.oneCell' = true) (ht : w.there b 0 34)
    (hk : ∀ w2, w2.rangeAt b 0 cs → Below b w w2 → w2.heap.size = w.heap.size → wpList Try.prog ops Q rest (a.put o.dst undef) w2) : wpList Try.prog ops Q (o :: rest) a w :=
  wl_store33 hg x y ho b 0 hx cs hy hl h1 ht (hk _ (World.rangeAt_setCells_same _ _ _ _ (by rw [hl]; exact ht)) (below_setCells (Below.refl _ _) (Nat.le_refl _) _ _) (size_setCells _ _ _ _))

def RetI (w : World) (x : Nat) (e : Ending) (w' : World) : Prop := e = .returned (.int .i64 x) ∧ Below w.heap.size w w'
theorem retI_of {w w' : World} {x y : Nat} (h : x = y) (hb : Below w.heap.size w w') : RetI w y (.returned (.int .i64 x)) w' := ⟨by rw [h], hb⟩

set_option maxRecDepth 100000 in
set_option maxHeartbeats 1000000 in
theorem longest24 (R n c : Nat) (hs : Nat → List Int) (ht : Nat → Int) (rv : Nat → Bool) (w : World) (hn : n ≤ 100000) (hR : R < w.heap.size) (hhs : ∀ i, i < n → (hs i).length = 32) (hW : WatchRow w R n hs ht rv) :
    Calls Try.prog 24 #[.slice (some ⟨R, 0, none⟩) n c] w (RetI w (longIdx ht n)) := by
  have HW : Hid (WatchRow w R n hs ht rv) := hW
  have HHS : Hid (∀ i, i < n → (hs i).length = 32) := hhs
  clear hW hhs
  go_enter Try.func24, Try.ntmps24
  go_wp2
  go_loopw [3, 8] (fun i j wr => ∃ k : Nat, k ≤ n ∧ j = .int .i64 k ∧ i = .int .i64 (longIdx ht k) ∧ Below w.heap.size w wr) (fun _ j _ => n - (intOf j).toNat)
  case atStart => exact ⟨0, Nat.zero_le _, rfl, rfl, Below.refl _ _⟩
  case round =>
    obtain ⟨k, hk, rfl, rfl, hbel⟩ := hrel
    have HBEL : Hid (Below w.heap.size w wr) := hbel
    have hsz := hbel.size
    clear hbel
    by_cases hlt : k < n
    · have hl32 := HHS.out k hlt
      have hli : longIdx ht k < n := by have := longIdx_le ht k; omega
      have HHK : Hid ((hs k).length = 32) := hl32
      clear hl32
      have HRK : Hid (∀ C, (wr.alloc (.cells C 33)).rangeAt R (0 + k * 34) (wcs (hs k) (ht k) (rv k))) := fun C => by
        refine World.rangeAt_alloc (fun q v hv => ?_) _
        rw [HBEL.out.cell (p := ⟨R, 0 + k * 34 + q, none⟩) hR, Nat.zero_add]
        exact HW.out k hlt q v hv
      have HRK0 : Hid (wr.rangeAt R (k * 34) (wcs (hs k) (ht k) (rv k))) := fun q v hv => by
        rw [HBEL.out.cell (p := ⟨R, k * 34 + q, none⟩) hR]
        exact HW.out k hlt q v hv
      have HTN : Hid (∀ C : Array Value, C.size = 34 → (wr.alloc (.cells C 33)).there wr.heap.size 0 34) := fun C hC => there_new wr C 33 0 34 (by omega)
      go_wp2_with (first | (refine wl_load33 rfl (.tmp 11) rfl _ _ rfl (wcs (hs k) (ht k) (rv k)) (wcs_length HHK.out _ _) HRK0.out ?_) | (refine wl_store33_new rfl (.tmp 5) (.tmp 12) rfl _ rfl (wcs (hs k) (ht k) (rv k)) rfl (wcs_length HHK.out _ _) (wcs_oneCell _ _ _) (HTN.out _ rfl) ?_))
      intro w2 hr2 hb2 hs2
      have HB2 : Hid (Below wr.heap.size wr w2) := ((Below.refl _ _).alloc (Nat.le_refl _) _).trans hb2
      have hq1 : w2.cell? ⟨wr.heap.size, 32, none⟩ = some (.int .i64 (ht k)) := by
        have := hr2 32 _ (wcs_height HHK.out _ _)
        simpa using this
      have hq2 : w2.cell? ⟨R, longIdx ht k * 34 + 32, none⟩ = some (.int .i64 (ht (longIdx ht k))) := by
        rw [HB2.out.cell (p := ⟨R, longIdx ht k * 34 + 32, none⟩) (by show R < _; omega), HBEL.out.cell (p := ⟨R, longIdx ht k * 34 + 32, none⟩) hR]
        exact HW.out _ hli 32 _ (wcs_height (HHS.out _ hli) _ _)
      have HBN : Hid (∀ m, Below w.heap.size w (w2.drewN m)) := fun m => by
        have := HBEL.out.trans (HB2.out.mono (by omega))
        exact ⟨this.os, this.tape, this.output, this.size, this.block⟩
      clear hr2 hb2 hs2
      have hi0 : (0 : Int) ≤ (longIdx ht k : Int) := Int.natCast_nonneg _
      have hi1 : (longIdx ht k : Int) < (n : Int) := by omega
      cases hgt : decide (ht (longIdx ht k) < ht k)
      · have hgt' : ht k ≤ ht (longIdx ht k) := by have := of_decide_eq_false hgt; omega
        go_wp2
        refine wp_region_quiet_lit (by kernel_rfl) (by kernel_rfl) ?_
        repeat (first | go_big_quiet_skip | (go_big_quiet_want; go_big_quiet_op; go_big_quiet_on))
        refine wpQuiet_nil ?_
        intro _ hw'
        obtain ⟨nq, hw''⟩ := hw'
        subst hw''
        go_wp2
        go_roundw
        case rel => exact ⟨k + 1, by omega, by go_num, by rw [longIdx_stay hgt'], HBN.out _⟩
        case measure => simp [intOf]; omega
      · have hgt' : ht (longIdx ht k) < ht k := of_decide_eq_true hgt
        go_wp2
        refine wp_region_quiet_lit (by kernel_rfl) (by kernel_rfl) ?_
        repeat (first | go_big_quiet_skip | (go_big_quiet_want; go_big_quiet_op; go_big_quiet_on))
        refine wpQuiet_nil ?_
        intro _ hw'
        obtain ⟨nq, hw''⟩ := hw'
        subst hw''
        go_wp2
        go_roundw
        case rel => exact ⟨k + 1, by omega, by go_num, by rw [longIdx_up hgt'], HBN.out _⟩
        case measure => simp [intOf]; omega
    · go_wp2
      go_ret
      exact retI_of (x := longIdx ht k) (by rw [show k = n from by omega]) HBEL.out

set_option maxRecDepth 100000 in
set_option maxHeartbeats 400000 in
theorem longest11 (R n c : Nat) (hs : Nat → List Int) (ht : Nat → Int) (rv : Nat → Bool) (w : World) (hn : n ≤ 100000) (hR : R < w.heap.size) (hhs : ∀ i, i < n → (hs i).length = 32) (hW : WatchRow w R n hs ht rv) :
    Calls Try.prog 11 #[.slice (some ⟨R, 0, none⟩) n c] w (RetI w (longIdx ht n)) := by
  have HK : Hid (Calls Try.prog 24 #[.slice (some ⟨R, 0, none⟩) n c] w (RetI w (longIdx ht n))) := longest24 R n c hs ht rv w hn hR hhs hW
  clear hhs hW
  go_enter Try.func11, Try.ntmps11
  go_wp2_with (go_at_call 24; refine HK.out.mono ?_)
  rintro e w1 ⟨rfl, hb⟩
  have HB : Hid (Below w.heap.size w w1) := hb
  clear hb
  go_wp2
  go_ret
  exact ⟨rfl, HB.out⟩

end Go.Proofs.Qxb6602710a
