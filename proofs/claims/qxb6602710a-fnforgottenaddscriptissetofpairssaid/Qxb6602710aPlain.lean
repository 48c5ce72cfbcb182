/-
  Seat b6602710a: plain laws: keys that are put one by one; which index is the last of its key; how many there are. No Go in sight (but for 'addKey', 'updKey').
-/
import Derived.Test.Qxb6602710aAdd
namespace Go.Proofs.Qxb6602710a

/-- The keys behind k rounds of 'm[keys[i]] = c'. -/
def keysTo (hs : Nat → List Int) : Nat → List (List Int)
  | 0 => []
  | k + 1 => addKey (keysTo hs k) (hs k)
/-- .. and the rows. -/
def rowsTo (hs : Nat → List Int) (vs : Nat → Nat → Int) : Nat → List Int → Nat → Int
  | 0 => fun _ _ => 0
  | k + 1 => updKey (rowsTo hs vs k) (hs k) (vs k)

/-- No later index below n bears i's key. -/
def lastB (hs : Nat → List Int) (n i : Nat) : Bool := (List.range n).all fun j => !decide (i < j ∧ hs j = hs i)
/-- How many indices below k are the last of their key among n. -/
def cntTo (hs : Nat → List Int) (n k : Nat) : Nat := ((List.range k).filter (lastB hs n)).length
/-- Is H among the first k keys? -/
def inTo (hs : Nat → List Int) (H : List Int) (k : Nat) : Bool := (List.range k).any fun i => eqB (hs i) H

theorem mem_keysTo {hs : Nat → List Int} {x : List Int} : ∀ {k : Nat}, x ∈ keysTo hs k ↔ ∃ i, i < k ∧ hs i = x
  | 0 => by simp [keysTo]
  | k + 1 => by
    simp only [keysTo, mem_addKey, mem_keysTo (k := k)]
    constructor
    · rintro (rfl | ⟨i, hi, e⟩)
      · exact ⟨k, Nat.lt_succ_self k, rfl⟩
      · exact ⟨i, Nat.lt_succ_of_lt hi, e⟩
    · rintro ⟨i, hi, e⟩
      rcases Nat.lt_succ_iff_lt_or_eq.1 hi with h | rfl
      · exact .inr ⟨i, h, e⟩
      · exact .inl e.symm

theorem nodup_keysTo (hs : Nat → List Int) : ∀ k, (keysTo hs k).Nodup
  | 0 => List.nodup_nil
  | k + 1 => by
    unfold keysTo addKey
    split
    · exact nodup_keysTo hs k
    · rename_i h; exact List.nodup_cons.2 ⟨h, nodup_keysTo hs k⟩

theorem lastB_true {hs : Nat → List Int} {n i : Nat} : lastB hs n i = true ↔ ∀ j, i < j → j < n → hs j ≠ hs i := by
  unfold lastB
  simp only [List.all_eq_true, List.mem_range, Bool.not_eq_true', decide_eq_false_iff_not, not_and]
  exact ⟨fun h j h1 h2 => h j h2 h1, fun h j h2 h1 => h j h1 h2⟩

theorem lastB_false {hs : Nat → List Int} {n i j : Nat} (h1 : i < j) (h2 : j < n) (e : hs j = hs i) : lastB hs n i = false := by
  cases h : lastB hs n i
  · rfl
  · exact absurd e (lastB_true.1 h j h1 h2)

theorem cntTo_succ (hs : Nat → List Int) (n k : Nat) : cntTo hs n (k + 1) = cntTo hs n k + if lastB hs n k = true then 1 else 0 := by
  unfold cntTo
  rw [List.range_succ, List.filter_append, List.length_append]
  by_cases h : lastB hs n k = true <;> simp [h]

theorem cntTo_le (hs : Nat → List Int) (n k : Nat) : cntTo hs n k ≤ k := by
  unfold cntTo
  have := List.length_filter_le (lastB hs n) (List.range k)
  simpa using this

theorem inTo_succ (hs : Nat → List Int) (H : List Int) (k : Nat) : inTo hs H (k + 1) = (inTo hs H k || eqB (hs k) H) := by
  unfold inTo
  rw [List.range_succ, List.any_append]
  simp

theorem inTo_iff {hs : Nat → List Int} {H : List Int} {k : Nat} : inTo hs H k = true ↔ H ∈ keysTo hs k := by
  rw [mem_keysTo]
  unfold inTo
  simp [List.any_eq_true, eqB_true]

theorem rowsTo_last {hs : Nat → List Int} {vs : Nat → Nat → Int} {i : Nat} : ∀ {n : Nat}, i < n → (∀ j, i < j → j < n → hs j ≠ hs i) → rowsTo hs vs n (hs i) = vs i
  | 0, h, _ => absurd h (Nat.not_lt_zero _)
  | n + 1, h, hl => by
    unfold rowsTo updKey
    rcases Nat.lt_succ_iff_lt_or_eq.1 h with h' | rfl
    · rw [if_neg (fun e => hl n h' (Nat.lt_succ_self n) e.symm)]
      exact rowsTo_last h' fun j h1 h2 => hl j h1 (Nat.lt_succ_of_lt h2)
    · simp

/-- The last index of a key. -/
theorem exists_last {hs : Nat → List Int} {x : List Int} : ∀ {n : Nat}, (∃ i, i < n ∧ hs i = x) → ∃ i, i < n ∧ hs i = x ∧ ∀ j, i < j → j < n → hs j ≠ x
  | 0, ⟨i, hi, _⟩ => absurd hi (Nat.not_lt_zero _)
  | n + 1, ⟨i, hi, e⟩ => by
    by_cases hn : hs n = x
    · exact ⟨n, Nat.lt_succ_self n, hn, fun j h1 h2 => by omega⟩
    · have hi' : i < n := by
        rcases Nat.lt_succ_iff_lt_or_eq.1 hi with h | rfl
        · exact h
        · exact absurd e hn
      obtain ⟨q, h1, h2, h3⟩ := exists_last ⟨i, hi', e⟩
      refine ⟨q, Nat.lt_succ_of_lt h1, h2, fun j hj1 hj2 => ?_⟩
      rcases Nat.lt_succ_iff_lt_or_eq.1 hj2 with h | rfl
      · exact h3 j hj1 h
      · exact hn

/-- HOW MANY KEYS THERE ARE: as many as indices that are the last of their key. -/
theorem length_keysTo (hs : Nat → List Int) (n : Nat) : (keysTo hs n).length = cntTo hs n n := by
  have hmem : ∀ x, x ∈ ((List.range n).filter (lastB hs n)).map hs ↔ x ∈ keysTo hs n := by
    intro x
    rw [mem_keysTo]
    simp only [List.mem_map, List.mem_filter, List.mem_range]
    constructor
    · rintro ⟨i, ⟨h1, _⟩, e⟩; exact ⟨i, h1, e⟩
    · intro h
      obtain ⟨i, h1, h2, h3⟩ := exists_last h
      exact ⟨i, ⟨h1, lastB_true.2 fun j hj1 hj2 => by rw [h2]; exact h3 j hj1 hj2⟩, h2⟩
  have hnd : (((List.range n).filter (lastB hs n)).map hs).Nodup := by
    rw [List.nodup_iff_pairwise_ne, List.pairwise_map]
    have h1 : ((List.range n).filter (lastB hs n)).Pairwise (· < ·) := (List.pairwise_lt_range (n := n)).filter _
    refine h1.imp_of_mem ?_
    intro a b ha hb hlt e
    simp only [List.mem_filter, List.mem_range] at ha hb
    exact lastB_true.1 ha.2 b hlt hb.1 e.symm
  have hp := (List.perm_ext_iff_of_nodup (nodup_keysTo hs n) hnd).2 fun x => (hmem x).symm
  have := hp.length_eq
  rw [this]
  simp [cntTo]

theorem addZ_other {S : List (List Int)} {Z : List Int → Nat → Int} {h k : List Int} {node i : Nat} (e : k ≠ h) : addZ S Z h node k i = Z k i := by
  unfold addZ updKey
  rw [if_neg e]
theorem addZ_hit {S : List (List Int)} {Z : List Int → Nat → Int} {h : List Int} {node : Nat} {i : Nat} (e : i = node / 64) : addZ S Z h node h i = orBit (rowOf S Z h i) node := by
  unfold addZ updKey
  simp [e]
theorem addZ_miss {S : List (List Int)} {Z : List Int → Nat → Int} {h : List Int} {node : Nat} {i : Nat} (e : i ≠ node / 64) : addZ S Z h node h i = rowOf S Z h i := by
  unfold addZ updKey
  simp [e]

theorem i64_and63 (n : Int) : bits .and .i64 n 63 = n % 64 := by
  have h63 : (BitVec.ofInt 64 63).toNat = 2 ^ 6 - 1 := by decide
  have key : (BitVec.ofInt 64 n &&& BitVec.ofInt 64 63).toNat = (n % ((2 ^ 64 : Nat) : Int)).toNat % 2 ^ 6 := by
    rw [BitVec.toNat_and, BitVec.toNat_ofInt, h63, Nat.and_two_pow_sub_one_eq_mod]
  show IntKind.i64.wrap ((BitVec.ofInt 64 n &&& BitVec.ofInt 64 63).toNat : Nat) = n % 64
  rw [key, IntKind.wrap_i64]
  omega

theorem pow64_lt (m : Nat) : (2 : Nat) ^ (m % 64) < 18446744073709551616 := by
  have h : m % 64 < 64 := Nat.mod_lt _ (by decide)
  exact Nat.pow_lt_pow_right (by decide) h

theorem wrap_pow (m : Nat) : IntKind.u64.wrap (2 ^ (m % 64)) = ((2 ^ (m % 64) : Nat) : Int) := by
  have := pow64_lt m
  rw [IntKind.wrap_u64]
  have e : ((2 : Int) ^ (m % 64)) = ((2 ^ (m % 64) : Nat) : Int) := by simp
  rw [e]
  generalize (2 : Nat) ^ (m % 64) = p at *
  omega

theorem orBit_zero (m : Nat) : bits BinOp.or IntKind.u64 0 (IntKind.u64.wrap (2 ^ (m % 64))) = IntKind.u64.wrap (2 ^ (m % 64)) := by
  have h := pow64_lt m
  rw [wrap_pow]
  have := u64_or_nat 0 (2 ^ (m % 64)) (by decide) h
  simpa using this

/-- 'len(m)' at the operation. -/
theorem wl_len {o : Oper} {a : Act} {w : World} {ops : Array Oper} {rest : List Oper} {Q : Exit → Act → World → Prop} (hg : o.guard = none) (m : Operand) (ho : o.op = Op.call { callee := Callee.builtin Builtin.len, args := #[m], argTypes := #[44] })
    {b base n words : Nat} {S : List (List Int)} {Z : List Int → Nat → Int} (hm : a.eval m = .map (some b)) (hR : Rec w b base n words S Z) (c : Nat) (hc : S.length = c)
    (hk : wpList Try.prog ops Q rest (a.put o.dst (.int .i64 c)) w) : wpList Try.prog ops Q (o :: rest) a w := by
  obtain ⟨D, g, h⟩ := hR
  refine wpList_len_own w hg m 44 ho 31 43 Try.underlying44 _ b n D hm h.own ?_
  rw [h.size, hc]
  exact hk

theorem length_addKey_in {S : List (List Int)} {H : List Int} (h : H ∈ S) : (addKey S H).length = S.length := by unfold addKey; rw [if_pos h]
theorem length_addKey_new {S : List (List Int)} {H : List Int} (h : H ∉ S) : (addKey S H).length = S.length + 1 := by unfold addKey; rw [if_neg h]; rfl

end Go.Proofs.Qxb6602710a
