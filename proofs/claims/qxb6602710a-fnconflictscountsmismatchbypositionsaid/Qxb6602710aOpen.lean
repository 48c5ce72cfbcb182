/-
  Seat b6602710a: the arguments opened: [][32]byte, [][]uint64, [32]byte, []int, []bool.
-/
import Derived.Test.Qxb6602710aOps
import Derived.Deep.Matrix
namespace Go.Proofs.Qxb6602710a
open Go.ChangeShapes Go.WideShapes Go.ChangeAt Go.RowKit Go.Deep

theorem Try.own : ownKnob Try.prog.godebug = none := by kernel_rfl
theorem Try.cells3 : Try.prog.cellsOf 3 = 1 := by kernel_rfl
theorem Try.cells4 : Try.prog.cellsOf 4 = 1 := by kernel_rfl
theorem Try.cells43 : Try.prog.cellsOf 43 = 1 := by kernel_rfl
theorem Try.cells45 : Try.prog.cellsOf 45 = 1 := by kernel_rfl

/-- A slice of hashes as it came in. -/
def IsHashes (w : World) (a : Option Addr) (len : Nat) (hs : Nat → List Int) : Prop :=
  (∀ i, i < len → Hash (hs i)) ∧ (len < 1 ∨ ∃ b o, a = some ⟨b, o, none⟩ ∧ b < w.heap.size ∧ ∀ i, i < len → w.rangeAt b (o + i * 32) (hcs (hs i)))

section
variable {H : Type} {enc : TypeId × Value → H} {W : World}

/-- 32 cells that read as a hash. -/
theorem cells_hash {n : Nat} {cs : List Value} {x : DataW H × List MemPlace} (h : DataW.trod enc Try.prog W 0 (fun _ => true) true n 29 cs = some x) : ∃ z : List Int, Hash z ∧ cs = hcs z := by
  obtain ⟨xs, m, _, _, hlen, hxl, hel⟩ := DataW.trod_array Try.underlying29 h
  rw [Try.cells29] at hlen
  rw [Try.cells5] at hel
  have each : ∀ i, i < 32 → ∃ z : Int, cs[i]? = some (.int .u8 z) ∧ (Lit.int .u8 z).wf = true := by
    intro i hi
    have h1 := hel i hi
    rw [List.getElem?_eq_getElem (by omega)] at h1
    have h2 : (cs.drop (i * 1)).take 1 = [cs[i]'(by omega)] := by
      rw [Nat.mul_one, List.drop_eq_getElem_cons (by omega)]
      rfl
    rw [h2] at h1
    obtain ⟨z, e, _, hw⟩ := DataW.trod_int Try.underlying5 h1
    simp only [List.cons.injEq, and_true] at e
    exact ⟨z, by rw [List.getElem?_eq_getElem (by omega), e], hw⟩
  obtain ⟨f, hf⟩ := choose_lt (α := Int) each
  refine ⟨(List.range 32).map f, ⟨by simp, fun n hn => ?_⟩, ?_⟩
  · simp only [List.mem_map, List.mem_range] at hn
    obtain ⟨i, hi, rfl⟩ := hn
    exact (hf i hi).2
  · apply List.ext_getElem?
    intro i
    by_cases hi : i < 32
    · rw [(hf i hi).1]
      simp [hcs, hi]
    · rw [List.getElem?_eq_none (by omega), List.getElem?_eq_none (by simp [hcs]; omega)]

theorem open_hashes {fuel : Nat} {a : Option Addr} {len cap : Nat} {x : DataW H × List MemPlace} (h : DataW.trod enc Try.prog W 0 (fun _ => true) true fuel 22 [.slice a len cap] = some x) :
    len ≤ maxLen ∧ ∃ hs, IsHashes W a len hs := by
  rcases open_slice Try.underlying22 h with ⟨hcs', _⟩ | ⟨ad, len', cap', m, n, D, Pl, hcs', _, hl, hm, hmm, _, hx⟩
  · simp at hcs'
    obtain ⟨rfl, rfl, rfl⟩ := hcs'
    exact ⟨Nat.zero_le _, fun _ => [], fun i hi => absurd hi (Nat.not_lt_zero _), .inl (by omega)⟩
  · simp at hcs'
    obtain ⟨rfl, rfl, rfl⟩ := hcs'
    simp only [if_true] at hmm
    subst hmm
    rw [Try.cells29] at hx
    obtain ⟨hs, hhs⟩ := choose_lt (α := List Int) (p := fun i z => Hash z ∧ W.cells? 0 (ad.add (i * 32)) 32 = some (hcs z)) (fun i hi => by
      obtain ⟨cs', h1, h2⟩ := hx i hi
      obtain ⟨z, hz, rfl⟩ := cells_hash h2
      exact ⟨z, hz, h1⟩)
    refine ⟨Nat.le_trans hl hm, hs, fun i hi => (hhs i (by omega)).1, ?_⟩
    by_cases h0 : len < 1
    · exact .inl h0
    · right
      obtain ⟨_, _, hc0⟩ := World.cells?_some (hhs 0 (by omega)).2
      have hc00 := hc0 0 (by omega)
      have hcl := (hhs 0 (by omega)).1.1
      rw [List.getElem?_eq_getElem (by rw [hcs_length]; omega)] at hc00
      have hadd : (ad.add (0 * 32)).add 0 = ad := by simp [Addr.add]
      rw [hadd] at hc00
      obtain ⟨b, o, sp⟩ := ad
      have hsp : sp = none := by
        unfold World.cell? at hc00
        split at hc00
        · cases sp with
          | none => rfl
          | some _ => simp at hc00
        · cases hc00
      subst hsp
      refine ⟨b, o, rfl, World.block_lt_of_cell? W _ hc00, fun i hi j v hv => ?_⟩
      obtain ⟨_, _, hci⟩ := World.cells?_some (hhs i (by omega)).2
      have hj : j < (hcs (hs i)).length := (List.getElem?_eq_some_iff.1 hv).1
      have hl32 := (hhs i (by omega)).1.1
      have := hci j (by rw [hcs_length] at hj; omega)
      rw [Addr.add_mid, Addr.add_mid] at this
      rw [this]
      exact hv

theorem open_hash {v : Value} {d : DataW H} {p : List MemPlace} (h : DataW.Trod enc Try.prog W 0 (fun _ => true) true 29 v d p) : ∃ z : List Int, Hash z ∧ v = .agg (hcs z).toArray := by
  obtain ⟨n, hn⟩ := h
  obtain ⟨z, hz, e⟩ := cells_hash hn
  refine ⟨z, hz, ?_⟩
  have hl : v.cells.toList.length = 32 := by rw [e, hcs_length, hz.1]
  cases v with
  | agg cs =>
    simp only [Value.cells] at e
    rw [← e]
  | _ => simp [Value.cells] at hl

theorem spot_none {b o : Nat} {sp : Option Nat} {v : Value} (h : W.cell? ⟨b, o, sp⟩ = some v) : sp = none := by
  unfold World.cell? at h
  split at h
  · cases sp with
    | none => rfl
    | some _ => simp at h
  · cases h

/-- A slice of one-cell elements that were read. -/
theorem isCells_of {a : Addr} {len : Nat} {V : Nat → Value} (h : ∀ i, i < len → W.cell? (a.add i) = some (V i)) : IsCells W (some a) len V := by
  by_cases h0 : len < 1
  · exact .inl h0
  · right
    have h00 := h 0 (by omega)
    obtain ⟨b, o, sp⟩ := a
    have e0 : (⟨b, o, sp⟩ : Addr).add 0 = ⟨b, o, sp⟩ := by simp [Addr.add]
    rw [e0] at h00
    have hsp := spot_none h00
    subst hsp
    refine ⟨b, o, rfl, World.block_lt_of_cell? W _ h00, fun i hi => ?_⟩
    have := h i hi
    rw [Addr.add_mid] at this
    exact this

theorem open_rows64 {fuel : Nat} {a : Option Addr} {len cap : Nat} {x : DataW H × List MemPlace} (h : DataW.trod enc Try.prog W 0 (fun _ => true) true fuel 41 [.slice a len cap] = some x) :
    len ≤ maxLen ∧ ∃ (A : Nat → Option Addr) (L C : Nat → Nat) (vs : Nat → Nat → Int), (∀ i, i < len → L i ≤ maxLen) ∧ IsCells W a len (fun i => .slice (A i) (L i) (C i)) ∧ ∀ i, i < len → IsCells W (A i) (L i) fun j => .int .u64 (vs i j) := by
  rcases open_int_rows Try.underlying41 Try.underlying43 Try.underlying45 Try.cells43 Try.cells45 h with ⟨hcs', _⟩ | ⟨ad, len', cap', A, L, C, Z, hcs', _, hl, hm, _, hx⟩
  · simp at hcs'
    obtain ⟨rfl, rfl, rfl⟩ := hcs'
    exact ⟨Nat.zero_le _, fun _ => none, fun _ => 0, fun _ => 0, fun _ _ => 0, fun i hi => absurd hi (Nat.not_lt_zero _), .inl (by omega), fun i hi => absurd hi (Nat.not_lt_zero _)⟩
  · simp at hcs'
    obtain ⟨rfl, rfl, rfl⟩ := hcs'
    refine ⟨Nat.le_trans hl hm, A, L, C, fun i j => (Z i).getD j 0, fun i hi => ?_, isCells_of fun i hi => (hx i (by omega)).1, fun i hi => ?_⟩
    · obtain ⟨_, h2, h3, _⟩ := hx i (by omega)
      exact Nat.le_trans h2 h3
    · obtain ⟨_, h2, _, _, _, h6, h7⟩ := hx i (by omega)
      cases hA : A i with
      | none => have := h6 hA; exact .inl (by omega)
      | some a' => exact isCells_of fun j hj => (h7 a' hA).2 j (by omega)

end
end Go.Proofs.Qxb6602710a
