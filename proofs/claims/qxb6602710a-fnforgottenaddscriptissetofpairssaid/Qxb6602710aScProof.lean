/-
  Seat b6602710a: 'Rows.FnForgottenAddScriptIsSetOfPairsSaid' PROVED.
-/
import Derived.Test.Qxb6602710aSc2
import Derived.Test.Qxb6602710aOpen2
namespace Go.Proofs.Qxb6602710a.fnForgottenAddScriptIsSetOfPairs
open Go.ChangeShapes Go.WideShapes Go.ChangeAt Go.RowKit
set_option linter.unusedVariables false

/-- The walk, whatever the input. -/
theorem walk (wd : Int) (a1 : Option Addr) (l1 c1 : Nat) (a2 : Option Addr) (l2 c2 : Nat) (nd : Nat → Int) (hs : Nat → List Int) (w : World)
    (hl1 : l1 ≤ maxLen) (hl2 : l2 ≤ maxLen) (hnb : ∀ i, i < l1 → -9223372036854775808 ≤ nd i ∧ nd i ≤ 9223372036854775807) (hN : IsCells w a1 l1 fun i => .int .i64 (nd i)) (hK : IsHashes w a2 l2 hs) :
    Calls Try.prog 9 #[.int .i64 wd, .slice a1 l1 c1, .slice a2 l2 c2] w (RetT w) := by
  by_cases hgood : l2 = l1 ∧ l1 ≤ 4096 ∧ 1 ≤ wd ∧ wd ≤ 1024 ∧ (l1 : Int) * wd ≤ 65536
  · obtain ⟨rfl, g1, g2, g3, g4⟩ := hgood
    obtain ⟨words, rfl⟩ := Int.eq_ofNat_of_zero_le (show 0 ≤ wd by omega)
    have hmul : l2 * words ≤ 65536 := by
      have : ((l2 * words : Nat) : Int) ≤ 65536 := by rw [Int.natCast_mul]; exact g4
      omega
    refine walk9_main words a1 l2 c1 a2 c2 nd hs w g1 (by omega) (by omega) hmul hK.1 hnb ?_
    rcases hN with h | ⟨b1, o1, e1, hb1, hc1⟩
    · exact .inl h
    · rcases hK.2 with h | ⟨b2, o2, e2, hb2, hc2⟩
      · exact .inl h
      · exact .inr ⟨b1, o1, b2, o2, e1, e2, hb1, hb2, hc1, hc2⟩
  · refine walk9_early wd a1 l1 c1 a2 l2 c2 w hl1 hl2 ?_
    by_cases e1 : l2 = l1
    · right
      by_cases e2 : l1 ≤ 4096
      · right
        by_cases e3 : wd < 1
        · exact .inl ⟨e1, e2, e3⟩
        · right
          by_cases e4 : 1024 < wd
          · exact .inl ⟨e1, e2, e4⟩
          · exact .inr ⟨e1, e2, by omega, by omega, by
              by_cases e5 : 65536 < (l1 : Int) * wd
              · exact e5
              · exact absurd ⟨e1, e2, by omega, by omega, by omega⟩ hgood⟩
      · exact .inl (by omega)
    · exact .inl e1

set_option maxRecDepth 100000 in
theorem lifted (os : Os) (started : os.Started) (H : Type) (enc : TypeId × Value → H) :
    ReturnsInHanded {} Try.checked os 9 .any (Rows.fnForgottenAddScriptIsSetOfPairsSpec.pre6 enc Try.prog Try.f9 Rows.fnForgottenAddScriptIsSetOfPairsRow.domain false) (Rows.fnForgottenAddScriptIsSetOfPairsSpec.post enc Try.prog Try.f9 false true false false) := by
  refine returnsInHanded_of_change (C := Try.checked) Try.own started (by kernel_rfl) Try.func9
    (ChangeSpec.witness6 (enc := enc) (C := Try.checked) false ⟨#[], #[.int .i64 0, .slice none 0 0, .slice none 0 0], []⟩ 8 (by kernel_rfl) (by kernel_rfl) (by kernel_rfl) (by kernel_rfl)) ?_
  intro W base args ds gs before hval0 hW hcnd _
  have hval : ∀ (j : Nat) t v, Try.f9.params[j]? = some t → args[j]? = some v → Value.okWide Try.prog W .any base t v := hval0
  have hW' := hW
  obtain ⟨p, q, hA0, hV, rfl, hfz, hnd⟩ := hW
  have hA : DataW.TrodAll enc Try.prog W 0 (fun _ => true) true Try.f9.params.toList args.toList ds p := hA0
  rw [Try.params9] at hA hval
  obtain ⟨v0, vs0, d0, ds0, p0, q0, hargs, rfl, rfl, h0, r0⟩ := trodAll_cons hA
  obtain ⟨v1, vs1, d1, ds1, p1, q1, rfl, rfl, rfl, h1, r1⟩ := trodAll_cons r0
  obtain ⟨v2, vs2, d2, ds2, p2, q2, rfl, rfl, rfl, h2, r2⟩ := trodAll_cons r1
  obtain ⟨rfl, rfl, rfl⟩ := trodAll_nil r2
  obtain rfl : args = #[v0, v1, v2] := by cases args; simp_all
  obtain ⟨rfl, rfl⟩ := trodVars_none hV
  obtain ⟨a0, rfl, rfl, rfl, w0⟩ := open_int Try.underlying3 (hval 0 3 v0 rfl rfl) h0
  obtain ⟨a1, len1, cap1, rfl⟩ := okWide_slice Try.underlying23 (hval 1 23 v1 rfl rfl)
  have k1 := h1
  have lt1 : ∀ x ∈ p1, x.block < W.heap.size := by obtain ⟨m, hm⟩ := k1; exact DataW.trod_lt m _ _ _ hm
  obtain ⟨a2, len2, cap2, rfl⟩ := okWide_slice Try.underlying22 (hval 2 22 v2 rfl rfl)
  have k2 := h2
  have lt2 : ∀ x ∈ p2, x.block < W.heap.size := by obtain ⟨m, hm⟩ := k2; exact DataW.trod_lt m _ _ _ hm
  obtain ⟨hl1, nd, hnb, hN⟩ : len1 ≤ maxLen ∧ ∃ nd : Nat → Int, (∀ i, i < len1 → -9223372036854775808 ≤ nd i ∧ nd i ≤ 9223372036854775807) ∧ IsCells W a1 len1 (fun i => .int .i64 (nd i)) := by
    obtain ⟨fuel, hf⟩ := h1
    exact open_nums hf
  obtain ⟨hl2, hs, hK⟩ : len2 ≤ maxLen ∧ ∃ hs, IsHashes W a2 len2 hs := by
    obtain ⟨fuel, hf⟩ := h2
    exact open_hashes hf
  clear hA0 hval0
  refine (walk a0 a1 len1 cap1 a2 len2 cap2 nd hs W hl1 hl2 hnb hN hK).mono fun e W' ⟨he, bel⟩ => ?_
  subst he
  exact ⟨_, rfl, _, _, _, [], _, [], hW', trodAll_mk1 (shut_bool Try.underlying4 _),
    (trodAll_cons_mk (shut_int Try.underlying3 w0)
      (trodAll_cons_mk (Below.trod Try.laidOut (by kernel_rfl) (of_decide_eq_true (by kernel_rfl)) k1 bel lt1)
        (trodAll_cons_mk (Below.trod Try.laidOut (by kernel_rfl) (of_decide_eq_true (by kernel_rfl)) k2 bel lt2) trodAll_mk0))), rfl, bel.frame _, fun h => by cases h⟩

theorem over : Rows.fnForgottenAddScriptIsSetOfPairsRow.holds Try.pinned (OpenSpec.ofChange Rows.fnForgottenAddScriptIsSetOfPairsSpec) :=
  OpenClaim.holds_of_wide 9 Try.f9 rfl rfl rfl rfl rfl rfl rfl ⟨rfl, rfl, rfl, rfl, rfl⟩ rfl rfl rfl rfl rfl (by kernel_rfl) Try.func9 (by kernel_rfl)
    (of_decide_eq_true (by kernel_rfl)) (by unfold Func.isWrapper; first | (rw [if_pos (by decide +kernel)]; kernel_rfl) | (rw [if_neg (by decide +kernel)]; exact ⟨rfl, rfl⟩))
    (fun os started H enc _ => lifted os started H enc)

/-- ████ THE STATEMENT ████ -/
theorem proved : Rows.FnForgottenAddScriptIsSetOfPairsSaid := over
#print axioms proved
end Go.Proofs.Qxb6602710a.fnForgottenAddScriptIsSetOfPairs
