/-
  Seat b6602710a: laws at the operation: a hash loaded, two hashes compared, a look-up; in a plain region ('wl_..') and in a region that draws its order and only reads ('q_..').
-/
import Derived.Test.Qxb6602710aRec
import Derived.DeepKeys
import Derived.StillTailTactics
import Derived.Maps.RangeWalk
import Derived.BigRegion
namespace Go.Proofs.Qxb6602710a
open Go.ChangeShapes Go.WideShapes Go.ChangeAt Go.RowKit

theorem Try.cells29 : Try.prog.cellsOf 29 = 32 := by kernel_rfl
theorem Try.wide29 : (match Try.prog.underlying 29 with | some (.array _ _) | some (.struct _) => true | _ => false) = true := by kernel_rfl
theorem Try.keyType29 : Try.prog.keyType 29 = true := by kernel_rfl

/-- The two types of hashes: [32]byte and ledger.Hash. -/
structure HT (t : TypeId) : Prop where
  und : Try.prog.underlying t = some (.array 32 5)
  cells : Try.prog.cellsOf t = 32
  kt : Try.prog.keyType t = true
  kt2 : Try.prog.keyTypeAt 2 t = true
  wide : (match Try.prog.underlying t with | some (.array _ _) | some (.struct _) => true | _ => false) = true
  size : (Try.prog.info? t).map (·.size) = some 32
  gd : Try.prog.eqGuardType Try.prog.depth t = false

theorem Try.kt29 : Try.prog.keyTypeAt 2 29 = true := by kernel_rfl
theorem Try.kt31 : Try.prog.keyTypeAt 2 31 = true := by kernel_rfl
theorem Try.sz29 : (Try.prog.info? 29).map (·.size) = some 32 := by kernel_rfl
theorem Try.sz31 : (Try.prog.info? 31).map (·.size) = some 32 := by kernel_rfl
theorem ht29 : HT 29 := ⟨Try.underlying29, Try.cells29, Try.keyType29, Try.kt29, Try.wide29, Try.sz29, Try.eqGuardType29⟩
theorem ht31 : HT 31 := ⟨Try.underlying31, Try.cells31, Try.keyType31, Try.kt31, Try.wide31, Try.sz31, Try.eqGuardType31⟩

theorem keyOf_hash_any {P : Program} {t : TypeId} (d : Nat) (hd : P.types.size = d + 1) (und : P.underlying t = some (.array 32 5)) (cells : P.cellsOf t = 32) (c5 : P.cellsOf 5 = 1) (kt : P.keyType t = true) (u5 : P.underlying 5 = some (.int .u8))
    {h : List Int} (hh : Hash h) : keyOf P t (.agg (hcs h).toArray) = some (hlit h) := by
  unfold keyOf
  rw [und]
  have hf : Value.formed P t (.agg (hcs h).toArray) = true := by
    simp [Value.formed, und, cells, hcs_length, hh.1]
  simp only [kt, hf, Bool.and_self, if_true, Value.cells, Program.keyLits, und, cells, c5]
  rw [if_pos (by simp [hcs_length, hh.1])]
  have := keyLits_bytes P d u5 h hh.2
  rw [hh.1, ← hd] at this
  simp only [Nat.mul_one]
  rw [this]
  simp [flatten_singles, hlit]

theorem keyOf_hash_at {t : TypeId} (ht : HT t) {h : List Int} (hh : Hash h) : keyOf Try.prog t (.agg (hcs h).toArray) = some (hlit h) := by
  obtain ⟨d, hd⟩ := Try.depth
  exact keyOf_hash_any d hd ht.und ht.cells Try.cells5 ht.kt Try.underlying5 hh

/-- Are two hashes one? (A name that the walk does not look behind.) -/
def eqB (x y : List Int) : Bool := decide (x = y)
theorem eqB_true {x y : List Int} : eqB x y = true ↔ x = y := decide_eq_true_iff
theorem eqB_false {x y : List Int} : eqB x y = false ↔ ¬ x = y := decide_eq_false_iff_not

theorem run_equal_hash {t : TypeId} (ht : HT t) {x y : List Int} (hx : Hash x) (hy : Hash y) (w : World) :
    (Op.equal t (.agg (hcs x).toArray) (.agg (hcs y).toArray)).run Try.prog w = .ok (eqB x y) w := by
  obtain ⟨r, hr, hiff⟩ := run_equal_deep w (m := 2) (by omega) ht.kt2 ht.wide (keyOf_hash_at ht hx) (keyOf_hash_at ht hy)
  rw [hr]
  congr 1
  rw [Bool.eq_iff_iff, hiff, eqB_true]
  exact ⟨fun e => hlit_inj hx hy e, fun e => by rw [e]⟩

theorem run_eql_hash {t : TypeId} (ht : HT t) {x y : List Int} (hx : Hash x) (hy : Hash y) (w : World) :
    (binOp .eql t (.agg (hcs x).toArray) (.agg (hcs y).toArray)).run Try.prog w = .ok (.bool (eqB x y)) w := by
  rw [run_eql_struct]
  have := run_equal_hash ht hx hy w
  unfold Op.equal Op.maxDepth at this
  rw [this]; rfl

theorem run_neq_hash {t : TypeId} (ht : HT t) {x y : List Int} (hx : Hash x) (hy : Hash y) (w : World) :
    (binOp .neq t (.agg (hcs x).toArray) (.agg (hcs y).toArray)).run Try.prog w = .ok (.bool (!eqB x y)) w := by
  rw [run_neq_struct]
  have := run_equal_hash ht hx hy w
  unfold Op.equal Op.maxDepth at this
  rw [this]; rfl

section
variable {o : Oper} {a : Act} {w : World}

theorem exec_load {t : TypeId} (ht : HT t) (x : Operand) (ho : o.op = .load t x) (b off : Nat) (hx : a.eval x = .pointer (some ⟨b, off, none⟩)) (h : List Int) (hl : h.length = 32) (hc : w.rangeAt b off (hcs h)) :
    (execOp a.eval o).run Try.prog w = .ok (.value (.agg (hcs h).toArray)) w := by
  have := run_loadVar_mid (P := Try.prog) w b off t (hcs h) _ hc ht.und rfl (by rw [ht.size, hcs_length, hl])
  unfold execOp
  simp only [ho, hx, Instr.loadAt, Instr.sureAddr, Sem.run_bind, Sem.run_pure, Result.andThen_ok, this]

theorem exec_eql {t t' : TypeId} (ht : HT t) (x y : Operand) (ho : o.op = .binOp .eql t x y t') (h k : List Int) (hx : a.eval x = .agg (hcs h).toArray) (hy : a.eval y = .agg (hcs k).toArray) (hh : Hash h) (hk : Hash k) :
    (execOp a.eval o).run Try.prog w = .ok (.value (.bool (eqB h k))) w := by
  unfold execOp
  simp only [ho, hx, hy, Sem.run_bind, Sem.run_pure, run_eqGuard_agg w .eql t x y _ _ ht.gd, Result.andThen_ok, run_eql_hash ht hh hk]

theorem exec_neq {t t' : TypeId} (ht : HT t) (x y : Operand) (ho : o.op = .binOp .neq t x y t') (h k : List Int) (hx : a.eval x = .agg (hcs h).toArray) (hy : a.eval y = .agg (hcs k).toArray) (hh : Hash h) (hk : Hash k) :
    (execOp a.eval o).run Try.prog w = .ok (.value (.bool (!eqB h k))) w := by
  unfold execOp
  simp only [ho, hx, hy, Sem.run_bind, Sem.run_pure, run_eqGuard_agg w .neq t x y _ _ ht.gd, Result.andThen_ok, run_neq_hash ht hh hk]

theorem exec_lookup (t : TypeId) (x y : Operand) (ok : Bool) (ho : o.op = .lookup t x y ok) (m k v : Value) (hx : a.eval x = m) (hy : a.eval y = k) (hr : (Instr.lookup t m k ok).run Try.prog w = .ok v w) :
    (execOp a.eval o).run Try.prog w = .ok (.value v) w := by
  unfold execOp
  simp only [ho, hx, hy, Sem.run_bind, Sem.run_pure, hr, Result.andThen_ok]

/-- In a region that draws and only reads: whatever yields one value after any number of draws. -/
theorem q_val {K : Act → Prop} (v : Value) (hrun : ∀ n, (execOp a.eval o).run Try.prog (w.drewN n) = .ok (.value v) (w.drewN n)) (hk : K (a.put o.dst v)) : o.quiet Try.prog a (fun w' => ∃ n, w' = w.drewN n) K :=
  ⟨v, fun w' ⟨n, e⟩ => by subst e; unfold Oper.quietAt; rw [hrun]; exact ⟨rfl, rfl⟩, hk⟩

/-- In a plain region. -/
theorem wl_val {ops : Array Oper} {rest : List Oper} {Q : Exit → Act → World → Prop} (hg : o.guard = none) (v : Value) (hrun : (execOp a.eval o).run Try.prog w = .ok (.value v) w)
    (hk : wpList Try.prog ops Q rest (a.put o.dst v) w) : wpList Try.prog ops Q (o :: rest) a w := by
  refine wpList_plain hg fun K hK => ?_
  unfold Oper.wp
  rw [hrun]
  exact hK _ _ hk

theorem rangeAt_drewN {b off : Nat} {cs : List Value} (h : w.rangeAt b off cs) (n : Nat) : (w.drewN n).rangeAt b off cs := h

theorem q_load {K : Act → Prop} (t : TypeId) (ht : HT t) (x : Operand) (ho : o.op = .load t x) (b off : Nat) (hx : a.eval x = .pointer (some ⟨b, off, none⟩)) (h : List Int) (hl : h.length = 32) (hc : w.rangeAt b off (hcs h))
    (hk : K (a.put o.dst (.agg (hcs h).toArray))) : o.quiet Try.prog a (fun w' => ∃ n, w' = w.drewN n) K :=
  q_val _ (fun n => exec_load ht x ho b off hx h hl (rangeAt_drewN hc n)) hk
theorem q_eql {K : Act → Prop} (t t' : TypeId) (ht : HT t) (x y : Operand) (ho : o.op = .binOp .eql t x y t') (h k : List Int) (hx : a.eval x = .agg (hcs h).toArray) (hy : a.eval y = .agg (hcs k).toArray) (hh : Hash h) (hkk : Hash k) {r : Bool} (hr : eqB h k = r)
    (hk : K (a.put o.dst (.bool r))) : o.quiet Try.prog a (fun w' => ∃ n, w' = w.drewN n) K :=
  q_val _ (fun _ => exec_eql ht x y ho h k hx hy hh hkk) (by rw [hr]; exact hk)
theorem q_neq {K : Act → Prop} (t t' : TypeId) (ht : HT t) (x y : Operand) (ho : o.op = .binOp .neq t x y t') (h k : List Int) (hx : a.eval x = .agg (hcs h).toArray) (hy : a.eval y = .agg (hcs k).toArray) (hh : Hash h) (hkk : Hash k) {r : Bool} (hr : (!eqB h k) = r)
    (hk : K (a.put o.dst (.bool r))) : o.quiet Try.prog a (fun w' => ∃ n, w' = w.drewN n) K :=
  q_val _ (fun _ => exec_neq ht x y ho h k hx hy hh hkk) (by rw [hr]; exact hk)
theorem q_lookup {K : Act → Prop} (t : TypeId) (x y : Operand) (ok : Bool) (ho : o.op = .lookup t x y ok) (m k v : Value) (hx : a.eval x = m) (hy : a.eval y = k) (hr : ∀ n, (Instr.lookup t m k ok).run Try.prog (w.drewN n) = .ok v (w.drewN n))
    (hk : K (a.put o.dst v)) : o.quiet Try.prog a (fun w' => ∃ n, w' = w.drewN n) K :=
  q_val _ (fun n => exec_lookup t x y ok ho m k v hx hy (hr n)) hk

/-- In a region that draws and only reads up to its tail. -/
theorem s_val {K : Act → Prop} (v : Value) (hrun : (execOp a.eval o).run Try.prog w = .ok (.value v) w) (hk : K (a.put o.dst v)) : o.still Try.prog a w K := by
  unfold Oper.still
  rw [hrun, Oper.stillUpon_value]
  exact hk
theorem still_want {ops : Array Oper} {rest : List Oper} {Q : Act → Prop} (hw : Region.wanted o (yielded ops a.tmps) = true) (h : ∀ K : Act → Prop, (∀ a, wpStill Try.prog ops w Q rest a → K a) → o.still Try.prog a w K) : wpStill Try.prog ops w Q (o :: rest) a :=
  wpStill_step fun K hK => by rw [if_pos hw]; exact h K hK
theorem s_load {ops : Array Oper} {rest : List Oper} {Q : Act → Prop} (hw : Region.wanted o (yielded ops a.tmps) = true) (t : TypeId) (ht : HT t) (x : Operand) (ho : o.op = .load t x) (b off : Nat) (hx : a.eval x = .pointer (some ⟨b, off, none⟩)) (h : List Int) (hl : h.length = 32) (hc : w.rangeAt b off (hcs h))
    (hk : wpStill Try.prog ops w Q rest (a.put o.dst (.agg (hcs h).toArray))) : wpStill Try.prog ops w Q (o :: rest) a :=
  still_want hw fun _ hK => s_val _ (exec_load ht x ho b off hx h hl hc) (hK _ hk)

/-- An operation that yields no value and leaves the world w'. -/
theorem wl_unit {ops : Array Oper} {rest : List Oper} {Q : Exit → Act → World → Prop} (hg : o.guard = none) (w' : World) (hrun : (execOp a.eval o).run Try.prog w = .ok .skip w')
    (hk : wpList Try.prog ops Q rest (a.put o.dst undef) w') : wpList Try.prog ops Q (o :: rest) a w := by
  refine wpList_plain hg fun K hK => ?_
  unfold Oper.wp
  rw [hrun]
  exact hK _ _ hk
theorem wl_mapUpdate {ops : Array Oper} {rest : List Oper} {Q : Exit → Act → World → Prop} (hg : o.guard = none) (t : TypeId) (x y z : Operand) (ho : o.op = .mapUpdate t x y z) (m k v : Value) (hx : a.eval x = m) (hy : a.eval y = k) (hz : a.eval z = v) (w' : World)
    (hr : (Instr.mapUpdate t m k v).run Try.prog w = .ok () w') (hk : wpList Try.prog ops Q rest (a.put o.dst undef) w') : wpList Try.prog ops Q (o :: rest) a w :=
  wl_unit hg w' (by unfold execOp; simp only [ho, hx, hy, hz, Sem.run_bind, Sem.run_pure, hr, Result.andThen_ok]) hk

theorem wl_load {ops : Array Oper} {rest : List Oper} {Q : Exit → Act → World → Prop} (hg : o.guard = none) (t : TypeId) (ht : HT t) (x : Operand) (ho : o.op = .load t x) (b off : Nat) (hx : a.eval x = .pointer (some ⟨b, off, none⟩)) (h : List Int) (hl : h.length = 32) (hc : w.rangeAt b off (hcs h))
    (hk : wpList Try.prog ops Q rest (a.put o.dst (.agg (hcs h).toArray)) w) : wpList Try.prog ops Q (o :: rest) a w :=
  wl_val hg _ (exec_load ht x ho b off hx h hl hc) hk
theorem wl_lookup {ops : Array Oper} {rest : List Oper} {Q : Exit → Act → World → Prop} (hg : o.guard = none) (t : TypeId) (x y : Operand) (ok : Bool) (ho : o.op = .lookup t x y ok) (m k v : Value) (hx : a.eval x = m) (hy : a.eval y = k) (hr : (Instr.lookup t m k ok).run Try.prog w = .ok v w)
    (hk : wpList Try.prog ops Q rest (a.put o.dst v) w) : wpList Try.prog ops Q (o :: rest) a w :=
  wl_val hg _ (exec_lookup t x y ok ho m k v hx hy hr) hk
end

/-- A region that draws, whose first n operations only read and whose tail waits for them all: in the text's order. -/
theorem region_tail {id : Nat} {Q : Exit → Act → World → Prop} {a : Act} {w : World} {l : List Oper} (n : Nat) (hm : Try.prog.follows .mixedOrders = true) (hB : Region.lexTailB .any l.toArray n = true) (pre tail : List Oper) (h1 : l.take n = pre) (h2 : l.drop n = tail)
    (h : wpStill Try.prog l.toArray w.drew (fun a' => wpList Try.prog l.toArray Q tail a' w.drew) pre a) : (Code.region id l.toArray true).wp Try.prog Q a w := by
  subst h1 h2
  exact wp_region_still_tail n hm hB h

/-- A hash laid in a block of its own. -/
theorem range_box (w : World) (h : List Int) (t : TypeId) : (w.alloc (.cells (hcs h).toArray t)).rangeAt w.heap.size 0 (hcs h) := fun j v hv => by
  rw [World.cell?_alloc_at _ _ _ _ rfl]; simpa using hv

end Go.Proofs.Qxb6602710a
