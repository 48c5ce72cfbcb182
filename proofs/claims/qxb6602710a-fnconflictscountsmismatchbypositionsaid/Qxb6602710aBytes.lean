/-
  Seat b6602710a: the contracts of the five 'zzBytes_..' functions: each answers some bool and turns nothing that was there.
-/
import Derived.Test.Qxb6602710aBase
namespace Go.Proofs.Qxb6602710a
open Go.ChangeShapes Go.WideShapes Go.ChangeAt Go.RowKit

set_option maxRecDepth 100000 in
set_option maxHeartbeats 400000 in
theorem bytes21 (a0 : Option Addr) (l0 c0 : Nat) (a1 : Option Addr) (l1 c1 : Nat) (A : Nat → Option Addr) (L C : Nat → Nat) (wd nd : Int) (H : Array Value) (w : World)
    (hl0 : l0 ≤ maxLen) (hl1 : l1 ≤ maxLen) (hL : ∀ i, i < l1 → L i ≤ maxLen)
    (hc : IsCells w a1 l1 fun i => .slice (A i) (L i) (C i)) :
    Calls Try.prog 21 #[.slice a0 l0 c0, .slice a1 l1 c1, .int .i64 wd, .int .i64 nd, .agg H] w (RetB w) := by
  unfold maxLen at hl0 hl1 hL
  have hD : Hid (∀ b : Bool, RetB w (.returned (.bool b)) (w.alloc (Obj.cells H 29))) := fun b => ⟨b, rfl, (Below.refl _ _).alloc (Nat.le_refl _) _⟩
  rcases hc with hc | ⟨b1, o1, rfl, hb1, hc⟩
  all_goals
    go_enter Try.func21, Try.ntmps21
    go_wp2
    · go_ret
      exact hD.out _
    go_loop [11, 12] (fun n i => ∃ (k : Nat) (z : Nat), k ≤ l0 ∧ i = .int .i64 k ∧ n = .int .i64 z ∧ z ≤ 1048576) (fun _ i => l0 - (intOf i).toNat)
    case atStart => exact ⟨0, l0, Nat.zero_le _, rfl, rfl, by omega⟩
    case round =>
      obtain ⟨k, z, hk, rfl, rfl, hz⟩ := hrel
      by_cases hlt : k < l0
      · by_cases hz2 : (1048576 : Int) < (z : Int) + 32
        · have hd := decide_eq_true hz2
          go_wp2
          go_ret
          exact hD.out _
        · have hd := decide_eq_false hz2
          go_wp2
          go_round
          case rel => exact ⟨k + 1, z + 32, by omega, by go_num, by go_num, by omega⟩
          case measure => simp [intOf]; omega
      · go_wp2
        all_goals try (go_ret; exact hD.out _)
        go_loop [11, 13] (fun n i => ∃ (k : Nat) (z : Nat), k ≤ l1 ∧ i = .int .i64 k ∧ n = .int .i64 z ∧ z ≤ 1048576) (fun _ i => l1 - (intOf i).toNat)
        case atStart => exact ⟨0, z + l1, Nat.zero_le _, rfl, by go_num, by omega⟩
        case round =>
          obtain ⟨k', z', hk', rfl, rfl, hz'⟩ := hrel
          by_cases hlt' : k' < l1
          · have hLk := hL k' hlt'
            first
            | (exfalso; omega)
            | (have hck : (w.alloc (Obj.cells H 29)).cell? ⟨b1, o1 + k', none⟩ = some (.slice (A k') (L k') (C k')) := by rw [World.cell?_alloc_lt _ _ _ hb1]; exact hc k' hlt'
               by_cases hz2 : (1048576 : Int) < (L k' : Int)
               · have hd := decide_eq_true hz2
                 go_wp2
                 go_ret
                 exact hD.out _
               · have hd := decide_eq_false hz2
                 by_cases hz3 : (1048576 : Int) < (z' : Int) + (L k' : Int)
                 · have hd3 := decide_eq_true hz3
                   go_wp2
                   go_ret
                   exact hD.out _
                 · have hd3 := decide_eq_false hz3
                   go_wp2
                   go_round
                   case rel => exact ⟨k' + 1, z' + L k', by omega, by go_num, by go_num, by omega⟩
                   case measure => simp [intOf]; omega)
          · go_wp2
            go_ret
            exact hD.out _

set_option maxRecDepth 100000 in
set_option maxHeartbeats 400000 in
theorem bytes10 (a0 : Option Addr) (l0 c0 : Nat) (a1 : Option Addr) (l1 c1 : Nat) (a2 : Option Addr) (l2 c2 : Nat) (w : World)
    (hl0 : l0 ≤ maxLen) (hl1 : l1 ≤ maxLen) (hl2 : l2 ≤ maxLen) :
    Calls Try.prog 10 #[.slice a0 l0 c0, .slice a1 l1 c1, .slice a2 l2 c2] w (RetB w) := by
  unfold maxLen at hl0 hl1 hl2
  have hD : Hid (∀ b : Bool, RetB w (.returned (.bool b)) w) := fun b => ⟨b, rfl, Below.refl _ _⟩
  go_enter Try.func10, Try.ntmps10
  go_wp2
  · go_ret
    exact hD.out _
  go_loop [7, 8] (fun n i => ∃ (k : Nat) (z : Nat), k ≤ l0 ∧ i = .int .i64 k ∧ n = .int .i64 z ∧ z ≤ 1048576) (fun _ i => l0 - (intOf i).toNat)
  case atStart => exact ⟨0, l0, Nat.zero_le _, rfl, rfl, by omega⟩
  case round =>
    obtain ⟨k, z, hk, rfl, rfl, hz⟩ := hrel
    by_cases hlt : k < l0
    · by_cases hz2 : (1048576 : Int) < (z : Int) + 32
      · have hd := decide_eq_true hz2
        go_wp2
        go_ret
        exact hD.out _
      · have hd := decide_eq_false hz2
        go_wp2
        go_round
        case rel => exact ⟨k + 1, z + 32, by omega, by go_num, by go_num, by omega⟩
        case measure => simp [intOf]; omega
    · go_wp2
      all_goals (go_ret; exact hD.out _)

set_option maxRecDepth 100000 in
set_option maxHeartbeats 400000 in
theorem bytes13 (a0 : Option Addr) (l0 c0 : Nat) (a1 : Option Addr) (l1 c1 : Nat) (a2 : Option Addr) (l2 c2 : Nat) (H : Array Value) (x : Int) (y : Bool) (w : World)
    (hl0 : l0 ≤ maxLen) (hl1 : l1 ≤ maxLen) (hl2 : l2 ≤ maxLen) :
    Calls Try.prog 13 #[.slice a0 l0 c0, .slice a1 l1 c1, .slice a2 l2 c2, .agg H, .int .i64 x, .bool y] w (RetB w) := by
  unfold maxLen at hl0 hl1 hl2
  have hD : Hid (∀ b : Bool, RetB w (.returned (.bool b)) (w.alloc (Obj.cells H 29))) := fun b => ⟨b, rfl, (Below.refl _ _).alloc (Nat.le_refl _) _⟩
  go_enter Try.func13, Try.ntmps13
  go_wp2
  · go_ret
    exact hD.out _
  go_loop [13, 14] (fun n i => ∃ (k : Nat) (z : Nat), k ≤ l0 ∧ i = .int .i64 k ∧ n = .int .i64 z ∧ z ≤ 1048576) (fun _ i => l0 - (intOf i).toNat)
  case atStart => exact ⟨0, l0, Nat.zero_le _, rfl, rfl, by omega⟩
  case round =>
    obtain ⟨k, z, hk, rfl, rfl, hz⟩ := hrel
    by_cases hlt : k < l0
    · by_cases hz2 : (1048576 : Int) < (z : Int) + 32
      · have hd := decide_eq_true hz2
        go_wp2
        go_ret
        exact hD.out _
      · have hd := decide_eq_false hz2
        go_wp2
        go_round
        case rel => exact ⟨k + 1, z + 32, by omega, by go_num, by go_num, by omega⟩
        case measure => simp [intOf]; omega
    · go_wp2
      all_goals (go_ret; exact hD.out _)

set_option maxRecDepth 100000 in
set_option maxHeartbeats 400000 in
theorem bytes15 (a0 : Option Addr) (l0 c0 : Nat) (a1 : Option Addr) (l1 c1 : Nat) (a2 : Option Addr) (l2 c2 : Nat) (a3 : Option Addr) (l3 c3 : Nat) (w : World)
    (hl0 : l0 ≤ maxLen) (hl1 : l1 ≤ maxLen) (hl2 : l2 ≤ maxLen) (hl3 : l3 ≤ maxLen) :
    Calls Try.prog 15 #[.slice a0 l0 c0, .slice a1 l1 c1, .slice a2 l2 c2, .slice a3 l3 c3] w (RetB w) := by
  unfold maxLen at hl0 hl1 hl2 hl3
  have hD : Hid (∀ b : Bool, RetB w (.returned (.bool b)) w) := fun b => ⟨b, rfl, Below.refl _ _⟩
  go_enter Try.func15, Try.ntmps15
  go_wp2
  · go_ret
    exact hD.out _
  go_loop [9, 10] (fun n i => ∃ (k : Nat) (z : Nat), k ≤ l0 ∧ i = .int .i64 k ∧ n = .int .i64 z ∧ z ≤ 1048576) (fun _ i => l0 - (intOf i).toNat)
  case atStart => exact ⟨0, l0, Nat.zero_le _, rfl, rfl, by omega⟩
  case round =>
    obtain ⟨k, z, hk, rfl, rfl, hz⟩ := hrel
    by_cases hlt : k < l0
    · by_cases hz2 : (1048576 : Int) < (z : Int) + 32
      · have hd := decide_eq_true hz2
        go_wp2
        go_ret
        exact hD.out _
      · have hd := decide_eq_false hz2
        go_wp2
        go_round
        case rel => exact ⟨k + 1, z + 32, by omega, by go_num, by go_num, by omega⟩
        case measure => simp [intOf]; omega
    · go_wp2
      all_goals try (go_ret; exact hD.out _)
      go_loop [9, 11] (fun n i => ∃ (k : Nat) (z : Nat), k ≤ l1 ∧ i = .int .i64 k ∧ n = .int .i64 z ∧ z ≤ 1048576) (fun _ i => l1 - (intOf i).toNat)
      case atStart => exact ⟨0, z + l1, Nat.zero_le _, rfl, by go_num, by omega⟩
      case round =>
        obtain ⟨k', z', hk', rfl, rfl, hz'⟩ := hrel
        by_cases hlt' : k' < l1
        · by_cases hz2 : (1048576 : Int) < (z' : Int) + 32
          · have hd := decide_eq_true hz2
            go_wp2
            go_ret
            exact hD.out _
          · have hd := decide_eq_false hz2
            go_wp2
            go_round
            case rel => exact ⟨k' + 1, z' + 32, by omega, by go_num, by go_num, by omega⟩
            case measure => simp [intOf]; omega
        · go_wp2
          all_goals (go_ret; exact hD.out _)

set_option maxRecDepth 100000 in
set_option maxHeartbeats 400000 in
theorem bytes23 (wd : Int) (a1 : Option Addr) (l1 c1 : Nat) (a0 : Option Addr) (l0 c0 : Nat) (w : World)
    (hl0 : l0 ≤ maxLen) (hl1 : l1 ≤ maxLen) :
    Calls Try.prog 23 #[.int .i64 wd, .slice a1 l1 c1, .slice a0 l0 c0] w (RetB w) := by
  unfold maxLen at hl0 hl1
  have hD : Hid (∀ b : Bool, RetB w (.returned (.bool b)) w) := fun b => ⟨b, rfl, Below.refl _ _⟩
  go_enter Try.func23, Try.ntmps23
  go_wp2
  all_goals try (go_ret; exact hD.out _)
  go_loop [7, 8] (fun n i => ∃ (k : Nat) (z : Nat), k ≤ l0 ∧ i = .int .i64 k ∧ n = .int .i64 z ∧ z ≤ 1048576) (fun _ i => l0 - (intOf i).toNat)
  case atStart => exact ⟨0, l1 + l0, Nat.zero_le _, rfl, by go_num, by omega⟩
  case round =>
    obtain ⟨k, z, hk, rfl, rfl, hz⟩ := hrel
    by_cases hlt : k < l0
    · by_cases hz2 : (1048576 : Int) < (z : Int) + 32
      · have hd := decide_eq_true hz2
        go_wp2
        go_ret
        exact hD.out _
      · have hd := decide_eq_false hz2
        go_wp2
        go_round
        case rel => exact ⟨k + 1, z + 32, by omega, by go_num, by go_num, by omega⟩
        case measure => simp [intOf]; omega
    · go_wp2
      all_goals (go_ret; exact hD.out _)

end Go.Proofs.Qxb6602710a
