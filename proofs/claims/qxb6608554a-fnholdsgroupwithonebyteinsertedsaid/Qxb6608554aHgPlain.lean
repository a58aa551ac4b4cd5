import Derived.Lib.Bytealg
namespace Go.Proofs.Qxb6608554a.Hg
open Go.Lib

/-- A '(' and, behind it, a ')'. -/
def grp : List UInt8 → Bool
  | [] => false
  | b :: r => if b = 40 then decide (41 ∈ r) else grp r

theorem grp_mem : ∀ {l : List UInt8}, grp l = true → 41 ∈ l
  | [], h => by simp [grp] at h
  | b :: r, h => by
    simp only [grp] at h
    by_cases hb : b = 40
    · rw [if_pos hb] at h
      exact List.mem_cons_of_mem _ (of_decide_eq_true h)
    · rw [if_neg hb] at h
      exact List.mem_cons_of_mem _ (grp_mem h)

theorem grp_other {c : UInt8} (h1 : c ≠ 40) (h2 : c ≠ 41) (y : List UInt8) : ∀ x : List UInt8, grp (x ++ c :: y) = grp (x ++ y)
  | [] => by simp [grp, h1]
  | b :: x => by
    simp only [List.cons_append, grp]
    rw [grp_other h1 h2 y x]
    have : (41 ∈ x ++ c :: y) ↔ (41 ∈ x ++ y) := by simp [Ne.symm h2]
    simp only [this]
theorem grp_open (y : List UInt8) : ∀ x : List UInt8, grp (x ++ 40 :: y) = (grp (x ++ y) || decide (41 ∈ y))
  | [] => by
    simp only [List.nil_append, grp, if_true]
    cases h : grp y with
    | false => simp
    | true => simp [grp_mem h]
  | b :: x => by
    simp only [List.cons_append, grp]
    rw [grp_open y x]
    by_cases hb : b = 40
    · simp only [if_pos hb]
      by_cases h : (41 : UInt8) ∈ y <;> simp [h]
    · simp only [if_neg hb]
theorem grp_close (y : List UInt8) : ∀ x : List UInt8, grp (x ++ 41 :: y) = (grp (x ++ y) || decide (40 ∈ x))
  | [] => by simp [grp]
  | b :: x => by
    simp only [List.cons_append, grp]
    rw [grp_close y x]
    by_cases hb : b = 40
    · simp [hb]
    · simp only [if_neg hb]
      have : (40 ∈ b :: x) ↔ (40 ∈ x) := by simp [Ne.symm hb]
      simp only [this]

theorem index_mem (c : UInt8) : ∀ l : List UInt8, 0 ≤ indexByte l c ↔ c ∈ l
  | [] => by simp [indexByte]
  | b :: r => by
    have ih := index_mem c r
    have hg := indexByte_ge r c
    simp only [indexByte]
    by_cases hb : b = c
    · simp [hb]
    · have hb' : (b == c) = false := by simpa using hb
      rw [hb']
      simp only [Bool.false_eq_true, if_false, List.mem_cons, Ne.symm hb, false_or]
      by_cases h1 : indexByte r c = -1
      · simp only [h1, beq_self_eq_true, if_true]
        rw [h1] at ih
        exact ih
      · have h2 : (indexByte r c == -1) = false := by simpa using h1
        rw [h2]
        simp only [Bool.false_eq_true, if_false]
        rw [← ih]; omega
theorem index_le (c : UInt8) : ∀ l : List UInt8, indexByte l c ≤ l.length
  | [] => by simp [indexByte]
  | b :: r => by
    have ih := index_le c r
    simp only [indexByte, List.length_cons]
    split
    · omega
    · split <;> omega

/-- The text of holdsGroup. -/
theorem grp_index : ∀ l : List UInt8, (0 ≤ indexByte l 40 → grp l = decide (0 ≤ indexByte (l.drop (indexByte l 40).toNat) 41)) ∧ (indexByte l 40 < 0 → grp l = false)
  | [] => by simp [indexByte, grp]
  | b :: r => by
    have ih := grp_index r
    have hg := indexByte_ge r 40
    by_cases hb : b = 40
    · subst hb
      have e0 : indexByte (40 :: r) 40 = 0 := by simp [indexByte]
      rw [e0]
      refine ⟨fun _ => ?_, fun h => by omega⟩
      simp only [grp, if_true, Int.toNat_zero, List.drop_zero]
      have := index_mem 41 (40 :: r)
      have h2 : (41 : UInt8) ∈ (40 :: r) ↔ 41 ∈ r := by simp
      rw [h2] at this
      exact decide_eq_decide.2 this.symm
    · have hb' : (b == (40 : UInt8)) = false := by simpa using hb
      by_cases h1 : indexByte r 40 = -1
      · have e0 : indexByte (b :: r) 40 = -1 := by simp [indexByte, hb', h1]
        rw [e0]
        refine ⟨fun h => by omega, fun _ => ?_⟩
        simp only [grp, if_neg hb]
        exact ih.2 (by omega)
      · have h2 : (indexByte r 40 == -1) = false := by simpa using h1
        have e0 : indexByte (b :: r) 40 = indexByte r 40 + 1 := by simp [indexByte, hb', h2]
        rw [e0]
        refine ⟨fun _ => ?_, fun h => by omega⟩
        simp only [grp, if_neg hb]
        rw [ih.1 (by omega), show (indexByte r 40 + 1).toNat = (indexByte r 40).toNat + 1 by omega, List.drop_succ_cons]

end Go.Proofs.Qxb6608554a.Hg
