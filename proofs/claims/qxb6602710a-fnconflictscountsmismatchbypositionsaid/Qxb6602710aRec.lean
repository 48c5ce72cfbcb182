/-
  Seat b6602710a: a hash as a list of 32 numbers; equality and keys of hashes; A MAP OF ROWS: 'Rec': map[ledger.Hash][]uint64 that the call itself made, each element a row of the call's own.
-/
import Derived.Test.Qxb6602710aBase
import Derived.Maps.OwnSet
import Derived.DeepKeys4
import Derived.Laws.StructEq
namespace Go.Proofs.Qxb6602710a
open Go.ChangeShapes Go.WideShapes Go.ChangeAt Go.RowKit
open Go.Maps (Keyed)

theorem Try.laidOut : laidOutB Try.prog = true := by kernel_rfl
theorem Try.cells5 : Try.prog.cellsOf 5 = 1 := by kernel_rfl
theorem Try.cells31 : Try.prog.cellsOf 31 = 32 := by kernel_rfl
theorem Try.row31 : 31 < Try.prog.types.size := of_decide_eq_true (by kernel_rfl)
theorem Try.wide31 : (match Try.prog.underlying 31 with | some (.array _ _) | some (.struct _) => true | _ => false) = true := by kernel_rfl
theorem Try.law31 : Keyed Try.prog 31 := Keyed.of_law (deep_law_laid Try.laidOut (m := 2) (by omega) Try.row31 (by kernel_rfl) Try.wide31)
theorem Try.keyType31 : Try.prog.keyType 31 = true := by kernel_rfl
theorem Try.depth : ∃ d, Try.prog.types.size = d + 1 := ⟨Try.prog.types.size - 1, by have := Try.row31; omega⟩

/-- 32 numbers, each a byte. -/
def Hash (h : List Int) : Prop := h.length = 32 ∧ ∀ n ∈ h, (Lit.int .u8 n).wf = true
/-- Its cells. -/
def hcs (h : List Int) : List Value := h.map (Value.int .u8)
/-- What it reads as, as a map's key. -/
def hlit (h : List Int) : Lit := .string (keyBytes (h.map (Lit.int .u8)))

theorem hcs_length (h : List Int) : (hcs h).length = h.length := by simp [hcs]
theorem hcs_inj {h k : List Int} (e : hcs h = hcs k) : h = k := by
  unfold hcs at e
  exact (List.map_inj_right (fun a b hab => by simpa using hab)).1 e
theorem hcs_oneCell (h : List Int) : ∀ v ∈ hcs h, v.oneCell' = true := ints_oneCell .u8 h

theorem keyLits_bytes (P : Program) (d : Nat) (h5 : P.underlying 5 = some (.int .u8)) : ∀ (h : List Int), (∀ n ∈ h, (Lit.int .u8 n).wf = true) →
    (List.range h.length).mapM (fun i => P.keyLits (d + 1) 5 (((hcs h).drop i).take 1)) = some (h.map fun n => [Lit.int .u8 n]) := by
  intro h
  induction h with
  | nil => intro _; rfl
  | cons x h ih =>
    intro hw
    rw [List.length_cons, List.range_succ_eq_map, List.mapM_cons]
    have e0 : P.keyLits (d + 1) 5 (((hcs (x :: h)).drop 0).take 1) = some [Lit.int .u8 x] := by
      simp [hcs, Program.keyLits, h5, hw x (by simp)]
    rw [e0, List.mapM_map]
    have e1 : ((fun i => P.keyLits (d + 1) 5 (((hcs (x :: h)).drop i).take 1)) ∘ Nat.succ) = fun i => P.keyLits (d + 1) 5 (((hcs h).drop i).take 1) := by
      funext i; simp [hcs]
    simp only [e1]
    rw [ih (fun n hn => hw n (by simp [hn]))]
    rfl

theorem flatten_singles {α β : Type} (f : α → β) : ∀ l : List α, (l.map fun n => [f n]).flatten = l.map f
  | [] => rfl
  | x :: l => by simp [flatten_singles f l]

theorem keyOf_hash {h : List Int} (hh : Hash h) : keyOf Try.prog 31 (.agg (hcs h).toArray) = some (hlit h) := by
  obtain ⟨d, hd⟩ := Try.depth
  unfold keyOf
  rw [Try.underlying31]
  have hf : Value.formed Try.prog 31 (.agg (hcs h).toArray) = true := by
    simp [Value.formed, Try.underlying31, Try.cells31, hcs_length, hh.1]
  simp only [Try.keyType31, hf, Bool.and_self, if_true, Value.cells, Program.keyLits, Try.underlying31, Try.cells31, Try.cells5]
  rw [if_pos (by simp [hcs_length, hh.1])]
  have := keyLits_bytes Try.prog d Try.underlying5 h hh.2
  rw [hh.1, ← hd] at this
  simp only [Nat.mul_one]
  rw [this]
  simp [flatten_singles, hlit]

theorem hlit_inj {h k : List Int} (hh : Hash h) (hk : Hash k) (e : hlit h = hlit k) : h = k := by
  have h1 := keyOf_hash hh
  have h2 := keyOf_hash hk
  rw [← e] at h2
  have := Try.law31.inj h1 h2
  simp only [Value.agg.injEq] at this
  exact hcs_inj (by simpa using congrArg Array.toList this)

theorem hlit_key {h : List Int} (hh : Hash h) : WideAt.IsKeyLit (hlit h) := Try.law31.key (keyOf_hash hh)

/-! ### The reader of a row: a slice's value reads as its block's number -/
def rowR (n : Nat) (v : Value) : Option (DataW Unit × List MemPlace) :=
  match v with
  | .slice (some a) l c => if a.off = 0 ∧ a.spot = none ∧ l = n ∧ c = n then some (.lit (.int .i64 a.block), []) else none
  | .slice none l c => if l = 0 ∧ c = 0 then some (.nil, []) else none
  | _ => none

theorem rowR_mk (n g : Nat) : rowR n (.slice (some ⟨g, 0, none⟩) n n) = some (.lit (.int .i64 g), []) := by simp [rowR]
theorem rowR_nil (n : Nat) : rowR n (.slice none 0 0) = some (.nil, []) := by simp [rowR]
theorem rowR_inv {n g : Nat} {v : Value} {ps : List MemPlace} (h : rowR n v = some (.lit (.int .i64 (g : Int)), ps)) : v = .slice (some ⟨g, 0, none⟩) n n := by
  unfold rowR at h
  split at h
  · rename_i a l c
    split at h
    · rename_i hc
      obtain ⟨h1, h2, rfl, rfl⟩ := hc
      obtain ⟨b, o, s⟩ := a
      simp only at h1 h2
      subst h1 h2
      simp at h
      have : b = g := by omega
      rw [this]
    · cases h
  · split at h
    · simp at h
    · cases h
  · cases h
theorem rowR_inv_nil {n : Nat} {v : Value} {ps : List MemPlace} (h : rowR n v = some (.nil, ps)) : v = .slice none 0 0 := by
  unfold rowR at h
  split at h
  · split at h
    · simp at h
    · cases h
  · split at h
    · rename_i hc
      rw [hc.1, hc.2]
    · cases h
  · cases h

theorem Try.zero43 (w : World) : (zeroValue 43).run Try.prog w = .ok (.slice none 0 0) w := by kernel_rfl

/-- What 'Rec' says, its two ghosts open: D: what the map reads as (key to block number); g: the block of each key's row. -/
structure RecOf (w : World) (b base n words : Nat) (S : List (List Int)) (Z : List Int → Nat → Int) (D : DataW Unit) (g : List Int → Nat) : Prop where
  own : w.ownsMap Try.prog 31 (rowR words) b n D
  ok : ∀ k ∈ S, Hash k
  nodup : S.Nodup
  has : ∀ k, Hash k → Maps.has D (hlit k) = decide (k ∈ S)
  at_ : ∀ k ∈ S, D.atKey (hlit k) .nil = .lit (.int .i64 (g k))
  size : Maps.size D = S.length
  lo : ∀ k ∈ S, base ≤ g k
  row : ∀ k ∈ S, w.rowIs (g k) 45 words (fun i => .int .u64 (Z k i))
  inj : ∀ k ∈ S, ∀ k' ∈ S, g k = g k' → k = k'

/-- BLOCK b IS A MAP OF AT MOST n ENTRIES, ITS KEYS THE HASHES S (each once); AT KEY k A SLICE OVER A ROW OF ITS OWN (block 'base' or later) OF 'words' NUMBERS: Z k. -/
def Rec (w : World) (b base n words : Nat) (S : List (List Int)) (Z : List Int → Nat → Int) : Prop := ∃ D g, RecOf w b base n words S Z D g

theorem RecOf.ne {w : World} {b base n words : Nat} {S : List (List Int)} {Z : List Int → Nat → Int} {D : DataW Unit} {g : List Int → Nat} (h : RecOf w b base n words S Z D g) {k : List Int} (hk : k ∈ S) : g k ≠ b := by
  obtain ⟨es, clock, hb, _⟩ := h.own
  obtain ⟨c, hc, _⟩ := h.row k hk
  intro e
  rw [e, hb] at hc
  cases hc

/-- Nothing in it: a map that was just made. -/
theorem rec_made (w : World) (base words : Nat) (Z : List Int → Nat → Int) : Rec (w.alloc (.map #[] 0)) w.heap.size base 0 words [] Z :=
  ⟨.map [], fun _ => 0, World.ownsMap_made _ _ _ _, by simp, List.nodup_nil, fun k _ => by simp [Maps.has], by simp, rfl, by simp, by simp, by simp⟩

/-- It stays while none of its blocks is written. -/
theorem RecOf.kept {w w' : World} {b base n words : Nat} {S : List (List Int)} {Z : List Int → Nat → Int} {D : DataW Unit} {g : List Int → Nat} (h : RecOf w b base n words S Z D g)
    (hb : w'.heap[b]? = w.heap[b]?) (hg : ∀ k ∈ S, w'.heap[g k]? = w.heap[g k]?) : RecOf w' b base n words S Z D g := by
  refine ⟨?_, h.ok, h.nodup, h.has, h.at_, h.size, h.lo, fun k hk => (h.row k hk).of_block (hg k hk), h.inj⟩
  obtain ⟨es, clock, h1, h2⟩ := h.own
  exact ⟨es, clock, hb.trans h1, h2⟩

theorem Rec.kept {w w' : World} {b base n words : Nat} {S : List (List Int)} {Z : List Int → Nat → Int} (h : Rec w b base n words S Z) (hk : ∀ i, i < w.heap.size → w'.heap[i]? = w.heap[i]?) : Rec w' b base n words S Z := by
  obtain ⟨D, g, h⟩ := h
  exact ⟨D, g, h.kept (hk _ h.own.lt) (fun k hk' => hk _ (h.row k hk').lt)⟩

theorem Rec.alloc {w : World} {b base n words : Nat} {S : List (List Int)} {Z : List Int → Nat → Int} (h : Rec w b base n words S Z) (o : Obj) : Rec (w.alloc o) b base n words S Z :=
  h.kept fun i hi => Below.heap_alloc w o i hi

theorem Rec.drew {w : World} {b base n words : Nat} {S : List (List Int)} {Z : List Int → Nat → Int} (h : Rec w b base n words S Z) : Rec w.drew b base n words S Z :=
  h.kept fun _ _ => rfl

theorem Rec.lt {w : World} {b base n words : Nat} {S : List (List Int)} {Z : List Int → Nat → Int} (h : Rec w b base n words S Z) : b < w.heap.size := by
  obtain ⟨D, g, h⟩ := h; exact h.own.lt

/-- 'v, ok := m[k]', the key there. -/
theorem RecOf.look {w : World} {b base n words : Nat} {S : List (List Int)} {Z : List Int → Nat → Int} {D : DataW Unit} {g : List Int → Nat} (h : RecOf w b base n words S Z D g) {k : List Int} (hk : k ∈ S) :
    (Instr.lookup 44 (.map (some b)) (.agg (hcs k).toArray) true).run Try.prog w = .ok (.tuple #[.slice (some ⟨g k, 0, none⟩) words words, .bool true]) w := by
  obtain ⟨v, ps, hrun, hv⟩ := h.own.look_ok Try.law31 Try.underlying44 (Try.zero43 w) (rowR_nil words) (keyOf_hash (h.ok k hk))
  rw [h.at_ k hk] at hv
  rw [h.has k (h.ok k hk), rowR_inv hv, decide_eq_true hk] at hrun
  exact hrun

/-- .. the key not there. -/
theorem RecOf.look_no {w : World} {b base n words : Nat} {S : List (List Int)} {Z : List Int → Nat → Int} {D : DataW Unit} {g : List Int → Nat} (h : RecOf w b base n words S Z D g) {k : List Int} (hh : Hash k) (hk : k ∉ S) :
    (Instr.lookup 44 (.map (some b)) (.agg (hcs k).toArray) true).run Try.prog w = .ok (.tuple #[.slice none 0 0, .bool false]) w := by
  obtain ⟨v, ps, hrun, hv⟩ := h.own.look_ok Try.law31 Try.underlying44 (Try.zero43 w) (rowR_nil words) (keyOf_hash hh)
  have hn : Maps.has D (hlit k) = false := by rw [h.has k hh]; exact decide_eq_false hk
  rw [Maps.atKey_of_not_has hn] at hv
  rw [hn, rowR_inv_nil hv] at hrun
  exact hrun

/-- 'v := m[k]', the key there. -/
theorem RecOf.look1 {w : World} {b base n words : Nat} {S : List (List Int)} {Z : List Int → Nat → Int} {D : DataW Unit} {g : List Int → Nat} (h : RecOf w b base n words S Z D g) {k : List Int} (hk : k ∈ S) :
    (Instr.lookup 44 (.map (some b)) (.agg (hcs k).toArray) false).run Try.prog w = .ok (.slice (some ⟨g k, 0, none⟩) words words) w := by
  obtain ⟨v, ps, hrun, hv⟩ := h.own.lookup Try.law31 Try.underlying44 (Try.zero43 w) (rowR_nil words) (keyOf_hash (h.ok k hk))
  rw [h.at_ k hk] at hv
  rw [rowR_inv hv] at hrun
  exact hrun

/-- 'len(m)'. -/
theorem Rec.len {w : World} {b base n words : Nat} {S : List (List Int)} {Z : List Int → Nat → Int} (h : Rec w b base n words S Z) (ty : TypeId) :
    (Builtin.len_ #[44] ty #[.map (some b)]).run Try.prog w = .ok (.int .i64 S.length) w := by
  obtain ⟨D, g, h⟩ := h
  rw [h.own.len Try.underlying44 ty, h.size]

/-- The keys behind 'm[k] = v'. -/
def addKey (S : List (List Int)) (k : List Int) : List (List Int) := if k ∈ S then S else k :: S
/-- The rows behind it. -/
def updKey (Z : List Int → Nat → Int) (k : List Int) (z : Nat → Int) : List Int → Nat → Int := fun k' => if k' = k then z else Z k'

theorem mem_addKey {S : List (List Int)} {k x : List Int} : x ∈ addKey S k ↔ x = k ∨ x ∈ S := by
  unfold addKey
  split
  · constructor
    · exact .inr
    · rintro (rfl | h)
      · assumption
      · exact h
  · simp

/-- 'm[k] = v', v a row of the call's own that no key has. -/
theorem RecOf.put {w : World} {b base n words : Nat} {S : List (List Int)} {Z : List Int → Nat → Int} {D : DataW Unit} {g : List Int → Nat} (h : RecOf w b base n words S Z D g) (hn : n < maxLen) {k : List Int} (hh : Hash k)
    {r : Nat} (hr : base ≤ r) (hnew : ∀ k' ∈ S, g k' ≠ r) {z : Nat → Int} (hrow : w.rowIs r 45 words (fun i => .int .u64 (z i))) :
    ∃ w', (Instr.mapUpdate 44 (.map (some b)) (.agg (hcs k).toArray) (.slice (some ⟨r, 0, none⟩) words words)).run Try.prog w = .ok () w' ∧ w.mapTurned w' b ∧
      RecOf w' b base (n + 1) words (addKey S k) (updKey Z k z) (D.put (hlit k) (.lit (.int .i64 r))) (fun x => if x = k then r else g x) := by
  obtain ⟨w', hrun, hown, hturn⟩ := h.own.store Try.law31 Try.underlying44 hn (keyOf_hash hh) (rowR_mk words r)
  refine ⟨w', hrun, hturn, hown, ?_, ?_, ?_, ?_, ?_, ?_, ?_, ?_⟩
  · intro x hx
    rcases mem_addKey.1 hx with rfl | hx
    · exact hh
    · exact h.ok x hx
  · unfold addKey
    split
    · exact h.nodup
    · rename_i hk; exact List.nodup_cons.2 ⟨hk, h.nodup⟩
  · intro x hx
    by_cases e : x = k
    · subst e
      rw [Maps.has_put_same h.own.isMap (hlit_key hx)]
      exact (decide_eq_true (mem_addKey.2 (.inl rfl))).symm
    · rw [Maps.has_put_other (fun e' => e (hlit_inj hx hh e')), h.has x hx]
      simp [mem_addKey, e]
  · intro x hx
    have hx' := mem_addKey.1 hx
    by_cases e : x = k
    · subst e
      simp only [if_true]
      exact Maps.atKey_put_same h.own.isMap (hlit_key hh) _ _
    · have hxS : x ∈ S := hx'.resolve_left e
      simp only [if_neg e]
      rw [Maps.atKey_put_other (fun e' => e (hlit_inj (h.ok x hxS) hh e'))]
      exact h.at_ x hxS
  · rw [Maps.size_put (h.own.tidy Try.law31), h.has k hh, h.size]
    unfold addKey
    by_cases hk : k ∈ S <;> simp [hk]
  · intro x hx
    by_cases e : x = k
    · simp [e, hr]
    · simp only [if_neg e]; exact h.lo x ((mem_addKey.1 hx).resolve_left e)
  · intro x hx
    have hb := hturn.grown.block
    have hne : ∀ i t m f, w.rowIs i t m f → some i ≠ some b := by
      intro i t m f hi e
      obtain ⟨es, clock, hb', _⟩ := h.own
      obtain ⟨c, hc, _⟩ := hi
      cases e
      rw [hb'] at hc
      cases hc
    by_cases e : x = k
    · simp only [e, if_true, updKey]
      exact hrow.of_block (hb r hrow.lt (hne _ _ _ _ hrow))
    · simp only [if_neg e, updKey]
      have hi := h.row x ((mem_addKey.1 hx).resolve_left e)
      exact hi.of_block (hb _ hi.lt (hne _ _ _ _ hi))
  · intro x hx y hy
    by_cases ex : x = k <;> by_cases ey : y = k
    · intro _; rw [ex, ey]
    · simp only [ex, if_true, if_neg ey]
      intro e; exact absurd e.symm (hnew y ((mem_addKey.1 hy).resolve_left ey))
    · simp only [ey, if_true, if_neg ex]
      intro e; exact absurd e (hnew x ((mem_addKey.1 hx).resolve_left ex))
    · simp only [if_neg ex, if_neg ey]
      exact h.inj x ((mem_addKey.1 hx).resolve_left ex) y ((mem_addKey.1 hy).resolve_left ey)

/-- A store into a key's row. -/
theorem RecOf.set {w : World} {b base n words : Nat} {S : List (List Int)} {Z : List Int → Nat → Int} {D : DataW Unit} {g : List Int → Nat} (h : RecOf w b base n words S Z D g) {k : List Int} (hk : k ∈ S) (j : Nat) (v : Int) :
    Rec (w.setCell ⟨g k, j, none⟩ (.int .u64 v)) b base n words S (updKey Z k fun i => if i = j then v else Z k i) := by
  refine ⟨D, g, h.own.setCell (fun e => h.ne hk e.symm) _, h.ok, h.nodup, h.has, h.at_, h.size, h.lo, fun x hx => ?_, h.inj⟩
  by_cases e : x = k
  · subst e
    simp only [updKey, if_true]
    refine ((h.row x hx).set j (.int .u64 v)).congr fun i _ => ?_
    by_cases ei : i = j <;> simp [ei]
  · simp only [updKey, if_neg e]
    exact (h.row x hx).setOther (fun e' => e (h.inj x hx k hk e')) _

end Go.Proofs.Qxb6602710a
