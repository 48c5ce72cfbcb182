/-
  Seat b6602792a: what every walk is told of a slice of bytes; the plain law of the escaped string; the row that grows by append.
-/
import Derived.Test.Qxb6602792aBase
import Derived.Maps.AppendAt
namespace Go.Proofs.Qxb6602792a
open Go.ChangeShapes Go.WideShapes Go.ChangeAt Go.RowKit

/-- What the walks are told of a slice of bytes: nothing of its address where it is empty; else its cells. -/
def In (w : World) (a : Option Addr) (len : Nat) (D : Nat → Int) : Prop :=
  0 < len → ∃ b o, a = some ⟨b, o, none⟩ ∧ b < w.heap.size ∧ ∀ j, j < len → w.cell? ⟨b, o + j, none⟩ = some (.int .u8 (D j))

theorem lt_of_cell {w : World} {a : Addr} {v : Value} (h : w.cell? a = some v) : a.block < w.heap.size := by
  unfold World.cell? at h
  split at h
  · next h1 => exact (Array.getElem?_eq_some_iff.1 h1).1
  · cases h

theorem in_of {w : World} {a : Option Addr} {len cap : Nat} {zs : List Int}
    (h : (a = none ∧ len = 0 ∧ cap = 0 ∧ zs = []) ∨ ∃ x, a = some x ∧ len ≤ cap ∧ cap ≤ maxLen ∧ zs.length = cap ∧ (∀ i, i < zs.length → w.cell? (x.add i) = some (.int .u8 (zs.getD i 0))) ∧ ∀ n ∈ zs, (Lit.int .u8 n).wf = true) :
    In w a len (fun j => zs.getD j 0) ∧ len ≤ maxLen := by
  rcases h with ⟨rfl, rfl, rfl, rfl⟩ | ⟨x, rfl, hl, hm, hz, hc, _⟩
  · exact ⟨fun h => absurd h (Nat.lt_irrefl _), Nat.zero_le _⟩
  · refine ⟨fun hpos => ?_, Nat.le_trans hl hm⟩
    have h0 := hc 0 (by omega)
    obtain ⟨b, o, s⟩ := x
    have hs : s = none := by
      unfold World.cell? at h0
      split at h0
      · cases s with
        | none => rfl
        | some s => simp [Addr.add] at h0
      · cases h0
    subst hs
    refine ⟨b, o, rfl, by have := lt_of_cell h0; simpa [Addr.add] using this, fun j hj => ?_⟩
    have := hc j (by omega)
    rwa [Addr.add_lit] at this

/-! ### The plain law -/

def lst (D : Nat → Int) (n : Nat) : List Int := (List.range n).map D
theorem lst_len (D : Nat → Int) (n : Nat) : (lst D n).length = n := by simp [lst]
theorem lst_succ (D : Nat → Int) (n : Nat) : lst D (n + 1) = lst D n ++ [D n] := by simp [lst, List.range_succ]

def special (x : Int) : Bool := x == 34 || x == 92
def one (x : Int) : List Int := if special x then [92, x] else [x]
def esc (D : Nat → Int) : Nat → List Int
  | 0 => []
  | n + 1 => esc D n ++ one (D n)
def elen (D : Nat → Int) (n : Nat) : Nat := (esc D n).length

theorem elen_succ (D : Nat → Int) (n : Nat) : elen D (n + 1) = elen D n + if special (D n) then 2 else 1 := by
  unfold elen; rw [esc, List.length_append, one]; split <;> simp
theorem elen_le (D : Nat → Int) (n : Nat) : elen D n ≤ 2 * n := by
  induction n with
  | zero => simp [elen, esc]
  | succ n ih => rw [elen_succ]; split <;> omega
theorem elen_mono (D : Nat → Int) (n t : Nat) (h : t ≤ n) : elen D t ≤ elen D n := by
  induction n with
  | zero => have : t = 0 := by omega
            subst this; exact Nat.le_refl _
  | succ n ih =>
    by_cases e : t = n + 1
    · subst e; exact Nat.le_refl _
    · have := ih (by omega); rw [elen_succ]; omega

theorem esc_at (D : Nat → Int) (n t : Nat) (h : t < n) : (esc D n)[elen D t]? = some (if special (D t) then 92 else D t) := by
  induction n with
  | zero => omega
  | succ n ih =>
    have hl : elen D n = (esc D n).length := rfl
    by_cases e : t = n
    · subst e
      rw [esc, List.getElem?_append_right (by rw [← hl]; exact Nat.le_refl _), ← hl, Nat.sub_self, one]
      split <;> rfl
    · have h1 := ih (by omega)
      have := (List.getElem?_eq_some_iff.1 h1).1
      rw [esc, List.getElem?_append_left this]
      exact h1

/-- The whole text. -/
def text (D0 D1 D2 : Nat → Int) (l0 l1 n : Nat) : List Int := (lst D0 l0 ++ [34] ++ esc D1 l1 ++ [34]) ++ lst D2 n

theorem text_len (D0 D1 D2 : Nat → Int) (l0 l1 n : Nat) : (text D0 D1 D2 l0 l1 n).length = l0 + 1 + elen D1 l1 + 1 + n := by
  simp [text, lst_len, elen]; omega

theorem text_quote (D0 D1 D2 : Nat → Int) (l0 l1 n : Nat) : (text D0 D1 D2 l0 l1 n).getD (l0 + 1 + elen D1 l1) 0 = 34 := by
  have h : (lst D0 l0 ++ [34] ++ esc D1 l1).length = l0 + 1 + elen D1 l1 := by simp [lst_len, elen]; omega
  unfold text
  rw [List.getD, List.getElem?_append_left (by simp [lst_len, elen]; omega), List.getElem?_append_right (by omega), h, Nat.sub_self]
  rfl

theorem text_at (D0 D1 D2 : Nat → Int) (l0 l1 n t : Nat) (h : t < l1) : (text D0 D1 D2 l0 l1 n).getD (l0 + 1 + elen D1 t) 0 = if special (D1 t) then 92 else D1 t := by
  have h1 := esc_at D1 l1 t h
  have hlt := (List.getElem?_eq_some_iff.1 h1).1
  have h2 : (lst D0 l0 ++ [34]).length = l0 + 1 := by simp [lst_len]
  unfold text
  rw [List.getD, List.getElem?_append_left (by simp [lst_len]; omega), List.getElem?_append_left (by simp [lst_len]; omega), List.getElem?_append_right (by omega), h2,
    show l0 + 1 + elen D1 t - (l0 + 1) = elen D1 t by omega, h1]
  rfl

/-- The offsets at which the loop of 'str' stands. -/
def Stand (D1 : Nat → Int) (l0 l1 j : Nat) : Prop := ∃ t, t ≤ l1 ∧ j = l0 + 1 + elen D1 t

theorem stand_start (D1 : Nat → Int) (l0 l1 : Nat) : Stand D1 l0 l1 (l0 + 1) := ⟨0, Nat.zero_le _, by simp [elen, esc]⟩
theorem stand_le (D1 : Nat → Int) (l0 l1 : Nat) : ∀ j, Stand D1 l0 l1 j → j ≤ l0 + 1 + elen D1 l1 := by
  rintro j ⟨t, ht, rfl⟩; have := elen_mono D1 l1 t ht; omega
theorem stand_step (D0 D1 D2 : Nat → Int) (l0 l1 n : Nat) : ∀ j, Stand D1 l0 l1 j → j < l0 + 1 + elen D1 l1 →
    (text D0 D1 D2 l0 l1 n).getD j 0 ≠ 34 ∧ ((text D0 D1 D2 l0 l1 n).getD j 0 = 92 → Stand D1 l0 l1 (j + 2)) ∧ ((text D0 D1 D2 l0 l1 n).getD j 0 ≠ 92 → Stand D1 l0 l1 (j + 1)) := by
  rintro j ⟨t, ht, rfl⟩ hlt
  have htl : t < l1 := by
    by_cases e : t = l1
    · subst e; omega
    · omega
  rw [text_at D0 D1 D2 l0 l1 n t htl]
  cases hs : special (D1 t)
  · simp [special] at hs
    refine ⟨by simpa using hs.1, fun h => absurd (by simpa using h) hs.2, fun _ => ⟨t + 1, htl, ?_⟩⟩
    rw [elen_succ]; simp [special, hs]; omega
  · refine ⟨by simp, fun _ => ⟨t + 1, htl, ?_⟩, fun h => absurd (by simp) h⟩
    rw [elen_succ, hs]; simp; omega

/-! ### The row that grows -/

/-- The new row at the heap's first free place, of capacity C: it holds the k bytes L; nothing that was there has turned. -/
def Buf (w wr : World) (C k : Nat) (L : List Int) : Prop :=
  wr.ownsRow w.heap.size 5 1 (.slice (some ⟨w.heap.size, 0, none⟩) k C) k (L.map (Value.int .u8)) ∧ Below w.heap.size w wr

theorem Buf.size {w wr : World} {C k : Nat} {L : List Int} (h : Buf w wr C k L) : w.heap.size < wr.heap.size := (h.1.lt w.heap.size rfl).2
theorem Buf.len {w wr : World} {C k : Nat} {L : List Int} (h : Buf w wr C k L) : L.length = k := by have := h.1.1; simpa using this
theorem Buf.in_ {w wr : World} {C k b o : Nat} {L : List Int} {v : Value} (h : Buf w wr C k L) (hb : b < w.heap.size) (hc : w.cell? ⟨b, o, none⟩ = some v) : wr.cell? ⟨b, o, none⟩ = some v := by
  rw [h.2.cell (p := ⟨b, o, none⟩) hb]; exact hc
theorem Buf.push {w wr w1 : World} {C k : Nat} {L : List Int} {x : Int} {o : Obj} (h : Buf w wr C k L)
    (hown : w1.ownsRow w.heap.size 5 1 (.slice (some ⟨w.heap.size, 0, none⟩) (k + 1) C) (k + 1) (L.map (Value.int .u8) ++ [.int .u8 x])) (hg : (wr.alloc o).grownBy w1 (some w.heap.size)) : Buf w w1 C (k + 1) (L ++ [x]) := by
  refine ⟨by simpa using hown, (h.2.alloc (Nat.le_of_lt h.size) _).grown hg (by have := h.size; simp; omega) ?_⟩
  intro k hk; cases hk; exact Nat.le_refl _
theorem Buf.cells {w wr : World} {C k : Nat} {L : List Int} (h : Buf w wr C k L) : ∀ j, j < k → wr.cell? ⟨w.heap.size, 0 + j, none⟩ = some (.int .u8 (L.getD j 0)) := by
  intro j hj
  have hl := h.len
  rw [Nat.zero_add, h.1.cellAt j (by omega), List.getElem?_map, List.getElem?_eq_getElem (by omega)]
  simp [List.getD, List.getElem?_eq_getElem (show j < L.length by omega)]

theorem info5 : (Try.prog.info? 5).map (fun i => (i.zero, i.size, i.bytes)) = some (some (.int .u8 0), 1, 1) := by kernel_rfl

end Go.Proofs.Qxb6602792a
