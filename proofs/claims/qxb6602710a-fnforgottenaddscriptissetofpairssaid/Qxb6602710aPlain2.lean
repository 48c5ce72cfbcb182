/-
  Seat b6602710a: plain laws for the script of Adds: which bits are set behind k Adds; how many bits there are: as many as different pairs.
-/
import Derived.Test.Qxb6602710aPlain
import Derived.Test.Qxb6602710aPop
namespace Go.Proofs.Qxb6602710a

/-- The rows behind k Adds, as the walk has them. -/
def scriptZ (hs : Nat → List Int) (no : Nat → Nat) : Nat → List Int → Nat → Int
  | 0 => fun _ _ => 0
  | k + 1 => addZ (keysTo hs k) (scriptZ hs no k) (hs k) (no k)
/-- .. as natural numbers. -/
def scriptN (hs : Nat → List Int) (no : Nat → Nat) : Nat → List Int → Nat → Nat
  | 0 => fun _ _ => 0
  | k + 1 => fun x i => if x = hs k ∧ i = no k / 64 then scriptN hs no k x i ||| 2 ^ (no k % 64) else scriptN hs no k x i

variable {hs : Nat → List Int} {no : Nat → Nat}

theorem scriptN_lt (x : List Int) (i : Nat) : ∀ k, scriptN hs no k x i < 2 ^ 64
  | 0 => by simp [scriptN]
  | k + 1 => by
    unfold scriptN
    split
    · exact or_lt 64 _ _ (scriptN_lt x i k) (Nat.mod_lt _ (by decide))
    · exact scriptN_lt x i k

theorem scriptN_new {x : List Int} {i : Nat} : ∀ {k : Nat}, x ∉ keysTo hs k → scriptN hs no k x i = 0
  | 0, _ => rfl
  | k + 1, h => by
    have h' : ¬ (x = hs k ∨ x ∈ keysTo hs k) := fun e => h (mem_addKey.2 e)
    unfold scriptN
    rw [if_neg (fun e => h' (.inl e.1))]
    exact scriptN_new fun e => h' (.inr e)

theorem orBit_nat (m node : Nat) (hm : m < 2 ^ 64) : orBit (m : Int) node = ((m ||| 2 ^ (node % 64) : Nat) : Int) := by
  unfold orBit
  rw [wrap_pow]
  exact u64_or_nat m _ hm (pow64_lt node)

theorem scriptZ_nat (x : List Int) (i : Nat) : ∀ k, scriptZ hs no k x i = (scriptN hs no k x i : Int)
  | 0 => rfl
  | k + 1 => by
    unfold scriptZ scriptN
    have hrow : ∀ i, rowOf (keysTo hs k) (scriptZ hs no k) (hs k) i = (scriptN hs no k (hs k) i : Int) := by
      intro i
      unfold rowOf
      split
      · exact scriptZ_nat (hs k) i k
      · rename_i h; rw [scriptN_new h]; rfl
    by_cases e : x = hs k
    · subst e
      by_cases ei : i = no k / 64
      · rw [addZ_hit ei, hrow, if_pos ⟨rfl, ei⟩, orBit_nat _ _ (scriptN_lt _ _ _)]
      · rw [addZ_miss ei, hrow, if_neg (fun h => ei h.2)]
    · rw [addZ_other e, if_neg (fun h => e h.1)]
      exact scriptZ_nat x i k

/-- WHICH BITS ARE SET: those of the pairs so far. -/
theorem scriptN_bit (x : List Int) (i b : Nat) (hb : b < 64) : ∀ k, (scriptN hs no k x i).testBit b = true ↔ ∃ j, j < k ∧ hs j = x ∧ no j / 64 = i ∧ no j % 64 = b
  | 0 => by simp [scriptN]
  | k + 1 => by
    have ih := scriptN_bit x i b hb k
    unfold scriptN
    constructor
    · intro h
      split at h
      · rename_i hc
        rw [testBit_or_pow, Bool.or_eq_true, decide_eq_true_iff] at h
        rcases h with h | h
        · obtain ⟨j, h1, h2⟩ := ih.1 h
          exact ⟨j, by omega, h2⟩
        · exact ⟨k, by omega, hc.1.symm, hc.2.symm, h⟩
      · obtain ⟨j, h1, h2⟩ := ih.1 h
        exact ⟨j, by omega, h2⟩
    · rintro ⟨j, h1, h2, h3, h4⟩
      rcases Nat.lt_succ_iff_lt_or_eq.1 h1 with h | rfl
      · have := ih.2 ⟨j, h, h2, h3, h4⟩
        split
        · rw [testBit_or_pow, this, Bool.true_or]
        · exact this
      · rw [if_pos ⟨h2.symm, h3.symm⟩, testBit_or_pow]
        simp [h4]

/-- Is the k-th pair a new one? -/
def freshB (hs : Nat → List Int) (no : Nat → Nat) (k : Nat) : Bool := (List.range k).all fun j => !(eqB (hs j) (hs k) && ((no j : Int) == (no k : Int)))
/-- How many of the first k pairs were new. -/
def pairsTo (hs : Nat → List Int) (no : Nat → Nat) (k : Nat) : Nat := sumTo (fun i => if freshB hs no i = true then 1 else 0) k

theorem freshB_true {k : Nat} : freshB hs no k = true ↔ ∀ j, j < k → ¬ (hs j = hs k ∧ no j = no k) := by
  unfold freshB
  simp only [List.all_eq_true, List.mem_range, Bool.not_eq_true', Bool.and_eq_false_iff, eqB_false, beq_eq_false_iff_ne]
  constructor
  · intro h j hj e
    rcases h j hj with h | h
    · exact h e.1
    · exact h (by rw [e.2])
  · intro h j hj
    by_cases e : hs j = hs k
    · right
      intro e2
      exact h j hj ⟨e, by omega⟩
    · exact .inl e

theorem freshB_false {k j : Nat} (h1 : j < k) (h2 : hs j = hs k) (h3 : no j = no k) : freshB hs no k = false := by
  cases h : freshB hs no k
  · rfl
  · exact absurd ⟨h2, h3⟩ (freshB_true.1 h j h1)

/-- All bits of one row. -/
def rowBits (words : Nat) (hs : Nat → List Int) (no : Nat → Nat) (k : Nat) (x : List Int) : Nat := sumTo (fun i => pcf 64 (scriptN hs no k x i)) words

theorem rowBits_new {words : Nat} {k : Nat} {x : List Int} (h : x ∉ keysTo hs k) : rowBits words hs no k x = 0 :=
  sumTo_zero fun i _ => by rw [scriptN_new h, pcf_zero]

theorem rowBits_other {words k : Nat} {x : List Int} (h : x ≠ hs k) : rowBits words hs no (k + 1) x = rowBits words hs no k x :=
  sumTo_congr fun i _ => by
    show pcf 64 (scriptN hs no (k + 1) x i) = _
    unfold scriptN
    rw [if_neg (fun e => h e.1)]
    cases k <;> rfl

theorem rowBits_hit {words k : Nat} (hn : no k < 64 * words) : rowBits words hs no (k + 1) (hs k) = rowBits words hs no k (hs k) + if freshB hs no k = true then 1 else 0 := by
  unfold rowBits
  refine sumTo_raise (q := no k / 64) (by omega) (fun i _ hi => ?_) ?_
  · show pcf 64 (if hs k = hs k ∧ i = no k / 64 then _ else _) = _
    rw [if_neg (fun e => hi e.2)]
  · show pcf 64 (if hs k = hs k ∧ no k / 64 = no k / 64 then _ else _) = _
    rw [if_pos ⟨rfl, rfl⟩, pcf_or 64 _ _ (Nat.mod_lt _ (by decide))]
    have hb := scriptN_bit (hs := hs) (no := no) (hs k) (no k / 64) (no k % 64) (Nat.mod_lt _ (by decide)) k
    by_cases hf : freshB hs no k = true
    · have : ¬ (scriptN hs no k (hs k) (no k / 64)).testBit (no k % 64) = true := fun h => by
        obtain ⟨j, h1, h2, h3, h4⟩ := hb.1 h
        exact freshB_true.1 hf j h1 ⟨h2, by omega⟩
      rw [if_pos hf, if_neg this]
    · have hex : ∃ j, j < k ∧ hs j = hs k ∧ no j = no k := by
        cases hd : decide (∃ j, j < k ∧ hs j = hs k ∧ no j = no k) with
        | true => exact of_decide_eq_true hd
        | false => exact absurd (freshB_true.2 fun j hj e => of_decide_eq_false hd ⟨j, hj, e⟩) hf
      obtain ⟨j, h1, h2, h3⟩ := hex
      rw [if_neg hf, if_pos (hb.2 ⟨j, h1, h2, by rw [h3], by rw [h3]⟩)]

/-- HOW MANY BITS THERE ARE IN ALL: as many as different pairs. -/
theorem bits_pairs {words : Nat} : ∀ {k : Nat}, (∀ i, i < k → no i < 64 * words) → sumL (rowBits words hs no k) (keysTo hs k) = pairsTo hs no k
  | 0, _ => rfl
  | k + 1, h => by
    have ih := bits_pairs (k := k) fun i hi => h i (Nat.lt_succ_of_lt hi)
    have hk := h k (Nat.lt_succ_self k)
    show sumL _ (keysTo hs (k + 1)) = sumTo _ k + (if freshB hs no k = true then 1 else 0)
    unfold keysTo addKey
    split
    · rename_i hm
      rw [sumL_raise (nodup_keysTo hs k) hm (fun x _ hx => rowBits_other hx) (rowBits_hit hk), ih]
      rfl
    · rename_i hm
      unfold sumL
      rw [rowBits_hit hk, rowBits_new hm, sumL_congr (g := rowBits words hs no k) (fun x hx => rowBits_other (fun e => hm (e ▸ hx))), ih]
      unfold pairsTo
      omega

/-- Is i the first index of its key? -/
def firstB (hs : Nat → List Int) (i : Nat) : Bool := (List.range i).all fun j => !eqB (hs j) (hs i)

theorem firstB_true {i : Nat} : firstB hs i = true ↔ ∀ j, j < i → ¬ hs j = hs i := by
  unfold firstB
  simp only [List.all_eq_true, List.mem_range, Bool.not_eq_true', eqB_false]

theorem firstB_false {i j : Nat} (h1 : j < i) (h2 : hs j = hs i) : firstB hs i = false := by
  cases h : firstB hs i
  · rfl
  · exact absurd h2 (firstB_true.1 h j h1)

/-- How many of the first k indices are the first of their key. -/
def keysN (hs : Nat → List Int) (k : Nat) : Nat := sumTo (fun i => if firstB hs i = true then 1 else 0) k
/-- A sum over the first indices of their keys. -/
def firstSum (f : List Int → Nat) (hs : Nat → List Int) (k : Nat) : Nat := sumTo (fun i => if firstB hs i = true then f (hs i) else 0) k

theorem firstB_mem {k : Nat} : firstB hs k = true ↔ hs k ∉ keysTo hs k := by
  rw [firstB_true, mem_keysTo]
  exact ⟨fun h ⟨i, h1, h2⟩ => h i h1 h2, fun h j h1 h2 => h ⟨j, h1, h2⟩⟩

theorem length_keysN (hs : Nat → List Int) : ∀ k, (keysTo hs k).length = keysN hs k
  | 0 => rfl
  | k + 1 => by
    show (addKey (keysTo hs k) (hs k)).length = sumTo _ k + (if firstB hs k = true then 1 else 0)
    by_cases h : hs k ∈ keysTo hs k
    · rw [length_addKey_in h, length_keysN hs k, if_neg (fun e => firstB_mem.1 e h)]
      rfl
    · rw [length_addKey_new h, length_keysN hs k, if_pos (firstB_mem.2 h)]
      rfl

theorem firstSum_keys (f : List Int → Nat) (hs : Nat → List Int) : ∀ k, sumL f (keysTo hs k) = firstSum f hs k
  | 0 => rfl
  | k + 1 => by
    show sumL f (addKey (keysTo hs k) (hs k)) = sumTo _ k + (if firstB hs k = true then f (hs k) else 0)
    unfold addKey
    split
    · rename_i h
      rw [firstSum_keys f hs k, if_neg (fun e => firstB_mem.1 e h)]
      rfl
    · rename_i h
      unfold sumL
      rw [firstSum_keys f hs k, if_pos (firstB_mem.2 h)]
      unfold firstSum
      omega

end Go.Proofs.Qxb6602710a
