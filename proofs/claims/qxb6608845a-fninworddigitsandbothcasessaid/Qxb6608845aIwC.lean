import Derived.Test.Qxb6608845aIwB
namespace Go.Proofs.Qxb6608845a.Iw
open Go.RowKit

/-- The bit 32 set, and turned, at each byte: by looking at all 256. -/
theorem bits_all : ∀ n : Fin 256, ((65 ≤ n.val ∧ n.val ≤ 90) → bits .or .u8 (n.val : Int) 32 = (n.val : Int) + 32 ∧ bits .xor .u8 (n.val : Int) 32 = (n.val : Int) + 32) ∧
    ((97 ≤ n.val ∧ n.val ≤ 122) → bits .or .u8 (n.val : Int) 32 = (n.val : Int) ∧ bits .xor .u8 (n.val : Int) 32 = (n.val : Int) - 32) ∧
    (¬ (65 ≤ n.val ∧ n.val ≤ 90) ∧ ¬ (97 ≤ n.val ∧ n.val ≤ 122) → bits .or .u8 (n.val : Int) 32 < 97 ∨ 122 < bits .or .u8 (n.val : Int) 32) := by decide +kernel

/-- The law's walk, its tests decided: what inWord says of the byte, whether it is a digit, the folded byte. -/
def LawP (w : World) (e : Ending) (w' : World) : Prop := e = .returned (.bool true) ∧ Below w.heap.size w w'

theorem conv_one (c : UInt8) (y : Int) (hy : y = (c.toNat : Int)) (w : World) : (convert 24 9 (.slice (some ⟨w.heap.size, 0, none⟩) 1 1)).run Try.prog (w.alloc (.cells #[.int .u8 y] 5)) = .ok (.string ⟨#[c]⟩) (w.alloc (.cells #[.int .u8 y] 5)) := by
  refine run_convert_bytes_back _ 24 9 5 ⟨w.heap.size, 0, none⟩ 1 [c] Try.underlying24 Try.underlying5 Try.underlying9 (fun j hj => ?_)
  obtain rfl : j = 0 := by simp at hj; omega
  simp [Addr.add, hy]

theorem valid_at (c : UInt8) (y : Int) (w : World) (m : Int) (hm : w.cell? ⟨0, 0, none⟩ = some (.int .i64 m)) :
    Calls Try.prog 5 #[.string ⟨#[c]⟩] (w.alloc (.cells #[.int .u8 y] 5)) fun e w' => e = .returned (.bool (decide (48 ≤ c.toNat ∧ c.toNat ≤ 57))) ∧ Below w.heap.size w w' := by
  have h00 : 0 < w.heap.size := World.block_lt_of_cell? w _ hm
  have hw1 : Below w.heap.size w (w.alloc (.cells #[.int .u8 y] 5)) := (Below.refl _ _).alloc (Nat.le_refl _) _
  exact (valid_any c (w.alloc (.cells #[.int .u8 y] 5)) m (by rw [hw1.cell (by exact h00)]; exact hm)).mono fun e w' ⟨he, hb⟩ => ⟨he, hw1.trans (hb.mono (by simp))⟩

set_option maxHeartbeats 400000 in
theorem law_digit (c : UInt8) (y F : Int) (w : World) (m : Int) (hm : w.cell? ⟨0, 0, none⟩ = some (.int .i64 m)) (hy : y = (c.toNat : Int)) (hc : 48 ≤ c.toNat ∧ c.toNat ≤ 57) (hor : bits .or .u8 y 32 = F) (hF : F < 97 ∨ 122 < F) :
    Calls Try.prog 3 #[.int .u8 y] w (LawP w) := by
  have hv := valid_at c y w m hm
  rw [decide_eq_true hc] at hv
  have HV := hidden hv
  have hconv := conv_one c y hy w
  have HWd := hidden (word_digit y w (by omega) (by omega))
  clear hv hm hy hc
  rcases hF with hF | hF
  all_goals
    go_enter Try.func3, Try.ntmps3
    go_wp2_with fail
    refine HWd.out.mono ?_
    rintro e w1 ⟨rfl, hw⟩
    subst hw
    go_wp2_with fail
    refine HV.out.mono ?_
    rintro e w2 ⟨rfl, hb⟩
    have HB := hidden hb
    clear hb hconv
    go_wp2
    go_ret
    unfold LawP
    exact ⟨rfl, HB.out⟩

set_option maxHeartbeats 400000 in
theorem law_other (c : UInt8) (y F : Int) (w : World) (m : Int) (hm : w.cell? ⟨0, 0, none⟩ = some (.int .i64 m)) (hy : y = (c.toNat : Int)) (hc : ¬ (48 ≤ c.toNat ∧ c.toNat ≤ 57)) (hn : y < 48 ∨ (57 < y ∧ y < 65) ∨ (90 < y ∧ y < 97) ∨ 122 < y) (hor : bits .or .u8 y 32 = F) (hF : F < 97 ∨ 122 < F) :
    Calls Try.prog 3 #[.int .u8 y] w (LawP w) := by
  have hv := valid_at c y w m hm
  rw [decide_eq_false hc] at hv
  have HV := hidden hv
  have hconv := conv_one c y hy w
  have HWd := hidden (word_no y w hn)
  clear hv hm hy hc hn
  rcases hF with hF | hF
  all_goals
    have d1 : decide ((97 : Int) ≤ F) = decide (122 < F) := by by_cases h : 122 < F <;> simp [h] <;> omega
    go_enter Try.func3, Try.ntmps3
    go_wp2_with fail
    refine HWd.out.mono ?_
    rintro e w1 ⟨rfl, hw⟩
    subst hw
    go_wp2_with fail
    refine HV.out.mono ?_
    rintro e w2 ⟨rfl, hb⟩
    have HB := hidden hb
    clear hb hconv
    go_wp2
    go_ret
    unfold LawP
    exact ⟨rfl, HB.out⟩

set_option maxHeartbeats 400000 in
theorem law_letter (c : UInt8) (y F X : Int) (w : World) (m : Int) (hm : w.cell? ⟨0, 0, none⟩ = some (.int .i64 m)) (hy : y = (c.toNat : Int)) (hc : ¬ (48 ≤ c.toNat ∧ c.toNat ≤ 57)) (hwd : ∀ w : World, Calls Try.prog 4 #[.int .u8 y] w fun e w' => e = .returned (.bool true) ∧ w = w')
    (hwx : ∀ w : World, Calls Try.prog 4 #[.int .u8 X] w fun e w' => e = .returned (.bool true) ∧ w = w') (hor : bits .or .u8 y 32 = F) (hxor : bits .xor .u8 y 32 = X) (hF1 : 97 ≤ F) (hF2 : F ≤ 122) :
    Calls Try.prog 3 #[.int .u8 y] w (LawP w) := by
  have hv := valid_at c y w m hm
  rw [decide_eq_false hc] at hv
  have HV := hidden hv
  have hconv := conv_one c y hy w
  have HWd := hidden hwd
  have HWx := hidden hwx
  clear hv hm hy hc hwd hwx
  go_enter Try.func3, Try.ntmps3
  go_wp2_with fail
  refine (HWd.out w).mono ?_
  rintro e w1 ⟨rfl, hw⟩
  subst hw
  go_wp2_with fail
  refine HV.out.mono ?_
  rintro e w2 ⟨rfl, hb⟩
  have HB := hidden hb
  clear hb hconv
  go_wp2_with fail
  refine (HWx.out w2).mono ?_
  rintro e w3 ⟨rfl, hw⟩
  subst hw
  go_wp2
  go_ret
  unfold LawP
  exact ⟨rfl, HB.out⟩

theorem law_any (c : UInt8) (w : World) (m : Int) (hm : w.cell? ⟨0, 0, none⟩ = some (.int .i64 m)) : Calls Try.prog 3 #[.int .u8 (c.toNat : Int)] w (LawP w) := by
  obtain ⟨h1, h2, h3⟩ := bits_all ⟨c.toNat, c.toNat_lt⟩
  simp only at h1 h2 h3
  obtain ⟨y, hy⟩ : ∃ y : Int, y = (c.toNat : Int) := ⟨_, rfl⟩
  rw [← hy] at h1 h2 h3 ⊢
  by_cases hu : 65 ≤ c.toNat ∧ c.toNat ≤ 90
  · obtain ⟨e1, e2⟩ := h1 hu
    exact law_letter c y (y + 32) (y + 32) w m hm hy (by omega) (fun w => word_upper y w (by omega) (by omega)) (fun w => word_lower (y + 32) w (by omega) (by omega)) e1 e2 (by omega) (by omega)
  · by_cases hl : 97 ≤ c.toNat ∧ c.toNat ≤ 122
    · obtain ⟨e1, e2⟩ := h2 hl
      exact law_letter c y y (y - 32) w m hm hy (by omega) (fun w => word_lower y w (by omega) (by omega)) (fun w => word_upper (y - 32) w (by omega) (by omega)) e1 e2 (by omega) (by omega)
    · have hF := h3 ⟨hu, hl⟩
      by_cases hd : 48 ≤ c.toNat ∧ c.toNat ≤ 57
      · exact law_digit c y _ w m hm hy hd rfl hF
      · exact law_other c y _ w m hm hy hd (by omega) rfl hF

end Go.Proofs.Qxb6608845a.Iw
