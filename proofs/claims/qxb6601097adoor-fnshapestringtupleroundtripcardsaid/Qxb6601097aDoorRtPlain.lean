import Derived.Lib.ItoaNum
import Derived.Lib.ItoaMem
import Derived.Lib.ParseIntB
import Derived.Lib.Bytealg
namespace Go.Proofs.Qxb6601097aDoor.Rt
open Go.Lib

theorem digit_toNat (d : Nat) (h : d < 10) : (UInt8.ofNat (48 + d)).toNat = 48 + d := by
  rw [UInt8.toNat_ofNat_of_lt' (by simp [UInt8.size]; omega)]

theorem decDigits_digit (u : Nat) : ∀ c ∈ decDigits u, 48 ≤ c.toNat ∧ c.toNat ≤ 57 := by
  induction u using Nat.strongRecOn with
  | _ u ih =>
    intro c hc
    by_cases h : u < 10
    · rw [decDigits, dif_pos h, List.mem_singleton] at hc
      rw [hc, digit_toNat u h]; omega
    · rw [decDigits, dif_neg h, List.mem_append, List.mem_singleton] at hc
      rcases hc with hc | hc
      · exact ih (u / 10) (by omega) c hc
      · rw [hc, digit_toNat _ (by omega)]; omega

theorem decDigits_ne (u : Nat) : decDigits u ≠ [] := by
  rw [decDigits]; split <;> simp

theorem decDigits_pos (u : Nat) : 1 ≤ (decDigits u).length := by
  have := decDigits_ne u
  cases h : decDigits u with
  | nil => exact absurd h this
  | cons c r => simp

/-- No numeral of more than one digit opens with a nought. -/
theorem decDigits_head (u : Nat) : 1 ≤ u → ∀ c, (decDigits u).head? = some c → c.toNat ≠ 48 := by
  induction u using Nat.strongRecOn with
  | _ u ih =>
    intro hu c hc
    by_cases h : u < 10
    · rw [decDigits, dif_pos h] at hc
      simp only [List.head?_cons, Option.some.injEq] at hc
      rw [← hc, digit_toNat u h]; omega
    · rw [decDigits, dif_neg h] at hc
      refine ih (u / 10) (by omega) (by omega) c ?_
      cases e : decDigits (u / 10) with
      | nil => exact absurd e (decDigits_ne _)
      | cons d r => rw [e] at hc; simpa using hc

theorem decDigits_long (u : Nat) (h : 1 < (decDigits u).length) : 1 ≤ u := by
  rcases Nat.eq_zero_or_pos u with h0 | h0
  · subst h0; rw [decDigits_one (by omega)] at h; simp at h
  · exact h0

theorem parseUintM_append (M : Nat) : ∀ (l1 l2 : List UInt8) (acc a : Nat), parseUintM M acc l1 = .ok a → parseUintM M acc (l1 ++ l2) = parseUintM M a l2
  | [], l2, acc, a, h => by
    simp only [parseUintM, NumEnd.ok.injEq] at h
    rw [h]; rfl
  | c :: r, l2, acc, a, h => by
    simp only [parseUintM, List.cons_append] at h ⊢
    by_cases h1 : 48 ≤ c.toNat ∧ c.toNat ≤ 57
    · rw [if_pos h1] at h ⊢
      by_cases h2 : 1844674407370955162 ≤ acc
      · rw [if_pos h2] at h; cases h
      · rw [if_neg h2] at h ⊢
        by_cases h3 : M < acc * 10 + (c.toNat - 48)
        · rw [if_pos h3] at h; cases h
        · rw [if_neg h3] at h ⊢
          exact parseUintM_append M r l2 _ a h
    · rw [if_neg h1] at h; cases h

theorem parseUintM_dec (M u : Nat) (hM : u ≤ M) (hu : u < 9223372036854775808) : parseUintM M 0 (decDigits u) = .ok u := by
  induction u using Nat.strongRecOn with
  | _ u ih =>
    by_cases h : u < 10
    · rw [decDigits, dif_pos h]
      simp only [parseUintM, digit_toNat u h]
      rw [if_pos (by omega), if_neg (by omega), if_neg (by omega)]
      simp
    · rw [decDigits, dif_neg h, parseUintM_append M _ _ 0 _ (ih (u / 10) (by omega) (by omega) (by omega))]
      simp only [parseUintM, digit_toNat (u % 10) (by omega)]
      rw [if_pos (by omega), if_neg (by omega), if_neg (by omega)]
      congr 1; omega

theorem parseIntB_dec (u : Nat) (hu : u < 9223372036854775808) : parseIntB 64 (decDigits u) = .ok (u : Int) := by
  have hd := decDigits_digit u
  have hp := parseUintM_dec (2 ^ 64 - 1) u (by omega) hu
  cases h : decDigits u with
  | nil => exact absurd h (decDigits_ne u)
  | cons c r =>
    rw [h] at hd hp
    have hc := hd c (by simp)
    have e1 : ¬ (c.toNat = 43 ∨ c.toNat = 45) := by omega
    have e2 : ¬ c.toNat = 45 := by omega
    simp only [parseIntB, if_neg e1, parseUintB]
    rw [if_neg (by simp), hp]
    simp only [e2, not_false_eq_true, true_and, false_and, if_false]
    rw [if_neg (by omega)]

theorem itoa_dec (z : Int) (h : 0 ≤ z) : itoa z = decDigits z.toNat := by
  unfold itoa; rw [if_neg (by omega)]

theorem parse_itoa (z : Int) (h : 0 ≤ z) (h1 : z ≤ 9223372036854775807) : parseIntB 64 (itoa z) = .ok z := by
  rw [itoa_dec z h, parseIntB_dec z.toNat (by omega)]
  congr 1; omega

/-- No byte of these is white space. -/
theorem not_space (c : UInt8) (h : 33 ≤ c.toNat) : indexByte [32, 9, 10, 13, 12] c = -1 := by
  have e : ∀ d : UInt8, d.toNat ≤ 32 → (d == c) = false := by
    intro d hd
    simp only [beq_eq_false_iff_ne, ne_eq]
    intro he
    subst he
    omega
  simp [indexByte, e 32 (by decide), e 9 (by decide), e 10 (by decide), e 13 (by decide), e 12 (by decide)]

end Go.Proofs.Qxb6601097aDoor.Rt
