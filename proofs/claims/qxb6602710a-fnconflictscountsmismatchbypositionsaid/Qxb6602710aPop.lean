/-
  Seat b6602710a: plain mathematics: how many bits a number has; a bit set; the lowest bit struck; sums over lists. No Go in sight.
-/
namespace Go.Proofs.Qxb6602710a

/-- How many of the lowest f bits of x are set. -/
def pcf : Nat → Nat → Nat
  | 0, _ => 0
  | f + 1, x => x % 2 + pcf f (x / 2)

theorem pcf_zero : ∀ f, pcf f 0 = 0
  | 0 => rfl
  | f + 1 => by simp [pcf, pcf_zero f]

theorem and_half (x y : Nat) : (x &&& y) / 2 = (x / 2) &&& (y / 2) := Nat.and_div_two
theorem or_half (x y : Nat) : (x ||| y) / 2 = (x / 2) ||| (y / 2) := Nat.or_div_two
theorem and_bit0 (x y : Nat) : (x &&& y) % 2 = (x % 2) * (y % 2) := by
  have h := Nat.and_mod_two_pow (a := x) (b := y) (n := 1)
  simp only [Nat.pow_one] at h
  rw [h]
  rcases Nat.mod_two_eq_zero_or_one x with hx | hx <;> rcases Nat.mod_two_eq_zero_or_one y with hy | hy <;> simp [hx, hy]
theorem or_bit0 (x y : Nat) : (x ||| y) % 2 = max (x % 2) (y % 2) := by
  have h := Nat.or_mod_two_pow (a := x) (b := y) (n := 1)
  simp only [Nat.pow_one] at h
  rw [h]
  rcases Nat.mod_two_eq_zero_or_one x with hx | hx <;> rcases Nat.mod_two_eq_zero_or_one y with hy | hy <;> simp [hx, hy]

/-- THE LOWEST BIT STRUCK: one bit less. -/
theorem pcf_strike : ∀ (f x : Nat), x ≠ 0 → x < 2 ^ f → pcf f (x &&& (x - 1)) + 1 = pcf f x
  | 0, x, h0, hx => by simp at hx; exact absurd hx h0
  | f + 1, x, h0, hx => by
    unfold pcf
    rw [and_half, and_bit0]
    rcases Nat.mod_two_eq_zero_or_one x with h | h
    · have hy0 : x / 2 ≠ 0 := by omega
      have hy : x / 2 < 2 ^ f := by rw [Nat.pow_succ] at hx; omega
      have e : (x - 1) / 2 = x / 2 - 1 := by omega
      rw [e, h]
      have := pcf_strike f (x / 2) hy0 hy
      omega
    · have e : (x - 1) / 2 = x / 2 := by omega
      have e1 : (x - 1) % 2 = 0 := by omega
      rw [e, e1, h, Nat.and_self]
      omega

theorem strike_lt (x : Nat) (h : x ≠ 0) : x &&& (x - 1) < x := by
  have := Nat.and_le_right (n := x) (m := x - 1)
  omega

/-- A BIT SET: one bit more, unless it was set. -/
theorem pcf_or : ∀ (f m b : Nat), b < f → pcf f (m ||| 2 ^ b) = pcf f m + if m.testBit b then 0 else 1
  | 0, _, _, h => absurd h (Nat.not_lt_zero _)
  | f + 1, m, 0, _ => by
    unfold pcf
    rw [or_half, or_bit0]
    have e1 : (2 ^ 0 : Nat) / 2 = 0 := rfl
    have e2 : (2 ^ 0 : Nat) % 2 = 1 := rfl
    rw [e1, e2, Nat.or_zero]
    rcases Nat.mod_two_eq_zero_or_one m with h | h
    · have ht : m.testBit 0 = false := by simp [Nat.testBit_zero, h]
      rw [ht, h]; simp; omega
    · have ht : m.testBit 0 = true := by simp [Nat.testBit_zero, h]
      rw [ht, h]; simp
  | f + 1, m, b + 1, hb => by
    unfold pcf
    rw [or_half, or_bit0]
    have e1 : (2 ^ (b + 1) : Nat) / 2 = 2 ^ b := by rw [Nat.pow_succ]; omega
    have e2 : (2 ^ (b + 1) : Nat) % 2 = 0 := by rw [Nat.pow_succ]; omega
    rw [e1, e2, pcf_or f (m / 2) b (by omega), Nat.testBit_succ]
    have : max (m % 2) 0 = m % 2 := by omega
    omega

theorem or_lt (f m b : Nat) (hm : m < 2 ^ f) (hb : b < f) : m ||| 2 ^ b < 2 ^ f := Nat.or_lt_two_pow hm (Nat.pow_lt_pow_right (by decide) hb)

theorem testBit_or_pow (m b c : Nat) : (m ||| 2 ^ b).testBit c = (m.testBit c || decide (b = c)) := by
  rw [Nat.testBit_or, Nat.testBit_two_pow]

theorem and_pow_ne {m b : Nat} (h : m.testBit b = true) : m &&& 2 ^ b ≠ 0 := by
  intro e
  have : (m &&& 2 ^ b).testBit b = true := by rw [Nat.testBit_and, h, Nat.testBit_two_pow]; simp
  rw [e] at this
  simp at this

/-- A sum over the first n indices. -/
def sumTo (f : Nat → Nat) : Nat → Nat
  | 0 => 0
  | n + 1 => sumTo f n + f n

theorem sumTo_congr {f g : Nat → Nat} : ∀ {n : Nat}, (∀ i, i < n → f i = g i) → sumTo f n = sumTo g n
  | 0, _ => rfl
  | n + 1, h => by
    unfold sumTo
    rw [sumTo_congr (fun i hi => h i (Nat.lt_succ_of_lt hi)), h n (Nat.lt_succ_self n)]

theorem sumTo_zero {f : Nat → Nat} {n : Nat} (h : ∀ i, i < n → f i = 0) : sumTo f n = 0 := by
  induction n with
  | zero => rfl
  | succ n ih => unfold sumTo; rw [ih (fun i hi => h i (Nat.lt_succ_of_lt hi)), h n (Nat.lt_succ_self n)]

/-- One index raised by d. -/
theorem sumTo_raise {f g : Nat → Nat} {q d : Nat} : ∀ {n : Nat}, q < n → (∀ i, i < n → i ≠ q → g i = f i) → g q = f q + d → sumTo g n = sumTo f n + d
  | 0, h, _, _ => absurd h (Nat.not_lt_zero _)
  | n + 1, h, ho, hq => by
    unfold sumTo
    rcases Nat.lt_succ_iff_lt_or_eq.1 h with h' | rfl
    · rw [sumTo_raise h' (fun i hi => ho i (Nat.lt_succ_of_lt hi)) hq, ho n (Nat.lt_succ_self n) (by omega)]
      omega
    · rw [sumTo_congr (fun i hi => ho i (Nat.lt_succ_of_lt hi) (by omega)), hq]
      omega

theorem sumTo_le {f : Nat → Nat} {c : Nat} : ∀ {n : Nat}, (∀ i, i < n → f i ≤ c) → sumTo f n ≤ n * c
  | 0, _ => by simp [sumTo]
  | n + 1, h => by
    unfold sumTo
    have h1 := sumTo_le (fun i hi => h i (Nat.lt_succ_of_lt hi))
    have h2 := h n (Nat.lt_succ_self n)
    rw [Nat.succ_mul]
    omega

theorem pcf_le : ∀ (f x : Nat), pcf f x ≤ f
  | 0, _ => Nat.le_refl _
  | f + 1, x => by unfold pcf; have := pcf_le f (x / 2); omega

/-- A sum over a list. -/
def sumL {α : Type} (f : α → Nat) : List α → Nat
  | [] => 0
  | x :: l => f x + sumL f l

theorem sumL_congr {α : Type} {f g : α → Nat} : ∀ {l : List α}, (∀ x ∈ l, f x = g x) → sumL f l = sumL g l
  | [], _ => rfl
  | x :: l, h => by
    unfold sumL
    rw [h x (by simp), sumL_congr (fun y hy => h y (by simp [hy]))]

theorem sumL_raise {α : Type} {f g : α → Nat} {a : α} {d : Nat} : ∀ {l : List α}, l.Nodup → a ∈ l → (∀ x ∈ l, x ≠ a → g x = f x) → g a = f a + d → sumL g l = sumL f l + d
  | [], _, h, _, _ => by cases h
  | x :: l, hn, hm, ho, ha => by
    obtain ⟨hx, hn'⟩ := List.nodup_cons.1 hn
    unfold sumL
    rcases List.mem_cons.1 hm with rfl | hm
    · rw [ha, sumL_congr (f := g) (g := f) (fun y hy => ho y (by simp [hy]) (fun e => hx (e ▸ hy)))]
      omega
    · rw [ho x (by simp) (fun e => hx (e ▸ hm)), sumL_raise hn' hm (fun y hy => ho y (by simp [hy])) ha]
      omega

theorem sumL_append {α : Type} (f : α → Nat) : ∀ (l m : List α), sumL f (l ++ m) = sumL f l + sumL f m
  | [], m => by simp [sumL]
  | x :: l, m => by simp only [List.cons_append, sumL, sumL_append f l m]; omega

theorem sumL_reverse {α : Type} (f : α → Nat) : ∀ l : List α, sumL f l.reverse = sumL f l
  | [] => rfl
  | x :: l => by rw [List.reverse_cons, sumL_append, sumL_reverse f l]; simp only [sumL]; omega

end Go.Proofs.Qxb6602710a
