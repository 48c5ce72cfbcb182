/-
  Seat b6602710a: 'Rows.FnForgottenAddExactSaid' PROVED.
-/
import Derived.Test.Qxb6602710aEx2
import Derived.Test.Qxb6602710aOpen
namespace Go.Proofs.Qxb6602710a.fnForgottenAddExact
open Go.ChangeShapes Go.WideShapes Go.ChangeAt Go.RowKit
set_option linter.unusedVariables false

/-- The walk, whatever the input. -/
theorem walk (a0 : Option Addr) (l0 c0 : Nat) (a1 : Option Addr) (l1 c1 : Nat) (A : Nat → Option Addr) (L C : Nat → Nat) (wd nd : Int) (H : List Int) (w : World) (hs : Nat → List Int) (vs : Nat → Nat → Int)
    (hH : Hash H) (hl0 : l0 ≤ maxLen) (hl1 : l1 ≤ maxLen) (hK : IsHashes w a0 l0 hs) (hL : ∀ i, i < l1 → L i ≤ maxLen) (hV : IsCells w a1 l1 fun i => .slice (A i) (L i) (C i))
    (hrows : ∀ i, i < l1 → IsCells w (A i) (L i) fun j => .int .u64 (vs i j)) :
    Calls Try.prog 8 #[.slice a0 l0 c0, .slice a1 l1 c1, .int .i64 wd, .int .i64 nd, .agg (hcs H).toArray] w (RetT w) := by
  by_cases hne : l1 ≠ l0 ∨ 4096 < l0
  · exact walk8_lens a0 l0 c0 a1 l1 c1 A L C wd nd H w hH hl0 hl1 hL hV hne
  · obtain rfl : l1 = l0 := by omega
    have h4 : l1 ≤ 4096 := by omega
    by_cases hgood : 1 ≤ wd ∧ wd ≤ 16384 ∧ 0 ≤ nd ∧ nd < 64 * wd
    · obtain ⟨g1, g2, g3, g4⟩ := hgood
      obtain ⟨words, rfl⟩ := Int.eq_ofNat_of_zero_le (show 0 ≤ wd by omega)
      obtain ⟨node, rfl⟩ := Int.eq_ofNat_of_zero_le g3
      refine walk8_main a0 l1 c0 a1 c1 A L C words node H w hs vs hH h4 hL (by omega) (by omega) (by omega) hK.1 ?_ hrows
      rcases hK.2 with h | ⟨b0, o0, e0, hb0, hc0⟩
      · exact .inl h
      · rcases hV with h | ⟨b1, o1, e1, hb1, hc1⟩
        · exact .inl h
        · exact .inr ⟨b0, o0, b1, o1, e0, e1, hb0, hb1, hc0, hc1⟩
    · exact walk8_bad a0 l1 c0 a1 c1 A L C wd nd H w hH hl0 hL hV h4 (by omega)

set_option maxRecDepth 100000 in
theorem lifted (os : Os) (started : os.Started) (H : Type) (enc : TypeId × Value → H) :
    ReturnsInHanded {} Try.checked os 8 .any (Rows.fnForgottenAddExactSpec.pre6 enc Try.prog Try.f8 Rows.fnForgottenAddExactRow.domain false) (Rows.fnForgottenAddExactSpec.post enc Try.prog Try.f8 false true false false) := by
  refine returnsInHanded_of_change (C := Try.checked) Try.own started (by kernel_rfl) Try.func8
    (ChangeSpec.witness6 (enc := enc) (C := Try.checked) false ⟨#[], #[.slice none 0 0, .slice none 0 0, .int .i64 0, .int .i64 0, .agg (hcs (List.replicate 32 0)).toArray], []⟩ 8 (by kernel_rfl) (by kernel_rfl) (by kernel_rfl) (by kernel_rfl)) ?_
  intro W base args ds gs before hval0 hW hcnd _
  have hval : ∀ (j : Nat) t v, Try.f8.params[j]? = some t → args[j]? = some v → Value.okWide Try.prog W .any base t v := hval0
  have hW' := hW
  obtain ⟨p, q, hA0, hV, rfl, hfz, hnd⟩ := hW
  have hA : DataW.TrodAll enc Try.prog W 0 (fun _ => true) true Try.f8.params.toList args.toList ds p := hA0
  rw [Try.params8] at hA hval
  obtain ⟨v0, vs0, d0, ds0, p0, q0, hargs, rfl, rfl, h0, r0⟩ := trodAll_cons hA
  obtain ⟨v1, vs1, d1, ds1, p1, q1, rfl, rfl, rfl, h1, r1⟩ := trodAll_cons r0
  obtain ⟨v2, vs2, d2, ds2, p2, q2, rfl, rfl, rfl, h2, r2⟩ := trodAll_cons r1
  obtain ⟨v3, vs3, d3, ds3, p3, q3, rfl, rfl, rfl, h3, r3⟩ := trodAll_cons r2
  obtain ⟨v4, vs4, d4, ds4, p4, q4, rfl, rfl, rfl, h4, r4⟩ := trodAll_cons r3
  obtain ⟨rfl, rfl, rfl⟩ := trodAll_nil r4
  obtain rfl : args = #[v0, v1, v2, v3, v4] := by cases args; simp_all
  obtain ⟨rfl, rfl⟩ := trodVars_none hV
  obtain ⟨a0, len0, cap0, rfl⟩ := okWide_slice Try.underlying22 (hval 0 22 v0 rfl rfl)
  have k0 := h0
  have lt0 : ∀ x ∈ p0, x.block < W.heap.size := by obtain ⟨m, hm⟩ := k0; exact DataW.trod_lt m _ _ _ hm
  obtain ⟨a1, len1, cap1, rfl⟩ := okWide_slice Try.underlying41 (hval 1 41 v1 rfl rfl)
  have k1 := h1
  have lt1 : ∀ x ∈ p1, x.block < W.heap.size := by obtain ⟨m, hm⟩ := k1; exact DataW.trod_lt m _ _ _ hm
  obtain ⟨a2, rfl, rfl, rfl, w2⟩ := open_int Try.underlying3 (hval 2 3 v2 rfl rfl) h2
  obtain ⟨a3, rfl, rfl, rfl, w3⟩ := open_int Try.underlying3 (hval 3 3 v3 rfl rfl) h3
  have k4 := h4
  have lt4 : ∀ x ∈ p4, x.block < W.heap.size := by obtain ⟨m, hm⟩ := k4; exact DataW.trod_lt m _ _ _ hm
  obtain ⟨z, hz, rfl⟩ := open_hash h4
  obtain ⟨hl0, hs, hK⟩ : len0 ≤ maxLen ∧ ∃ hs, IsHashes W a0 len0 hs := by
    obtain ⟨fuel, hf⟩ := h0
    exact open_hashes hf
  obtain ⟨hl1, A, L, C, vs, hL, hVc, hrows⟩ : len1 ≤ maxLen ∧ ∃ (A : Nat → Option Addr) (L C : Nat → Nat) (vs : Nat → Nat → Int), (∀ i, i < len1 → L i ≤ maxLen) ∧ IsCells W a1 len1 (fun i => .slice (A i) (L i) (C i)) ∧ ∀ i, i < len1 → IsCells W (A i) (L i) fun j => .int .u64 (vs i j) := by
    obtain ⟨fuel, hf⟩ := h1
    exact open_rows64 hf
  clear hA0 hval0
  refine (walk a0 len0 cap0 a1 len1 cap1 A L C a2 a3 z W hs vs hz hl0 hl1 hK hL hVc hrows).mono fun e W' ⟨he, bel⟩ => ?_
  subst he
  exact ⟨_, rfl, _, _, _, [], _, [], hW', trodAll_mk1 (shut_bool Try.underlying4 _),
    (trodAll_cons_mk (Below.trod Try.laidOut (by kernel_rfl) (of_decide_eq_true (by kernel_rfl)) k0 bel lt0)
      (trodAll_cons_mk (Below.trod Try.laidOut (by kernel_rfl) (of_decide_eq_true (by kernel_rfl)) k1 bel lt1)
        (trodAll_cons_mk (shut_int Try.underlying3 w2) (trodAll_cons_mk (shut_int Try.underlying3 w3)
          (trodAll_cons_mk (Below.trod Try.laidOut (by kernel_rfl) (of_decide_eq_true (by kernel_rfl)) k4 bel lt4) trodAll_mk0))))), rfl, bel.frame _, fun h => by cases h⟩

theorem over : Rows.fnForgottenAddExactRow.holds Try.pinned (OpenSpec.ofChange Rows.fnForgottenAddExactSpec) :=
  OpenClaim.holds_of_wide 8 Try.f8 rfl rfl rfl rfl rfl rfl rfl ⟨rfl, rfl, rfl, rfl, rfl⟩ rfl rfl rfl rfl rfl (by kernel_rfl) Try.func8 (by kernel_rfl)
    (of_decide_eq_true (by kernel_rfl)) (by unfold Func.isWrapper; first | (rw [if_pos (by decide +kernel)]; kernel_rfl) | (rw [if_neg (by decide +kernel)]; exact ⟨rfl, rfl⟩))
    (fun os started H enc _ => lifted os started H enc)

/-- ████ THE STATEMENT ████ -/
theorem proved : Rows.FnForgottenAddExactSaid := over
#print axioms proved
end Go.Proofs.Qxb6602710a.fnForgottenAddExact
