import Derived.Test.Qxb6608845aIwA
namespace Go.Proofs.Qxb6608845a.Iw
open Go.RowKit

theorem cutp_minus (w : World) : Calls Try.prog 9 #[.string ⟨#[45]⟩, .string ⟨#[45]⟩] w fun e w' => e = .returned (.tuple #[.string ⟨#[]⟩, .bool true]) ∧ w' = w := Try.strings_CutPrefix ⟨#[45]⟩ ⟨#[45]⟩ w
theorem cutp_other (c : UInt8) (h : c ≠ 45) (w : World) : Calls Try.prog 9 #[.string ⟨#[c]⟩, .string ⟨#[45]⟩] w fun e w' => e = .returned (.tuple #[.string ⟨#[c]⟩, .bool false]) ∧ w' = w := by
  have := Try.strings_CutPrefix ⟨#[c]⟩ ⟨#[45]⟩ w
  have e1 : Lib.hasPrefix [c] [45] = false := by simp [Lib.hasPrefix, List.isPrefixOf, Ne.symm h]
  have e2 : Lib.trimPrefix [c] [45] = [c] := by simp [Lib.trimPrefix, e1]
  rw [show (⟨#[c]⟩ : ByteArray).data.toList = [c] from rfl, show (⟨#[45]⟩ : ByteArray).data.toList = [45] from rfl, e1, e2] at this
  exact this
theorem cut_nil (w : World) (m : Int) (hm : w.cell? ⟨0, 0, none⟩ = some (.int .i64 m)) : Calls Try.prog 10 #[.string ⟨#[]⟩, .string ⟨#[46]⟩] w fun e w' => e = .returned (.tuple #[.string ⟨#[]⟩, .string ⟨#[]⟩, .bool false]) ∧ ∃ n, w' = w.drewN n :=
  Try.strings_Cut ⟨#[]⟩ ⟨#[46]⟩ m w (by decide) hm
theorem cut_point (w : World) (m : Int) (hm : w.cell? ⟨0, 0, none⟩ = some (.int .i64 m)) : Calls Try.prog 10 #[.string ⟨#[46]⟩, .string ⟨#[46]⟩] w fun e w' => e = .returned (.tuple #[.string ⟨#[]⟩, .string ⟨#[]⟩, .bool true]) ∧ ∃ n, w' = w.drewN n :=
  Try.strings_Cut ⟨#[46]⟩ ⟨#[46]⟩ m w (by decide) hm
theorem cut_other (c : UInt8) (h : c ≠ 46) (w : World) (m : Int) (hm : w.cell? ⟨0, 0, none⟩ = some (.int .i64 m)) : Calls Try.prog 10 #[.string ⟨#[c]⟩, .string ⟨#[46]⟩] w fun e w' => e = .returned (.tuple #[.string ⟨#[c]⟩, .string ⟨#[]⟩, .bool false]) ∧ ∃ n, w' = w.drewN n := by
  have := Try.strings_Cut ⟨#[c]⟩ ⟨#[46]⟩ m w (by rw [size_one]; decide) hm
  have e1 : Lib.index [c] [46] = -1 := by simp [Lib.index, List.isPrefixOf, Ne.symm h]
  have e2 : Lib.cut [c] [46] = ([c], [], false) := by simp [Lib.cut, e1]
  rw [show (⟨#[c]⟩ : ByteArray).data.toList = [c] from rfl, show (⟨#[46]⟩ : ByteArray).data.toList = [46] from rfl, e2] at this
  exact this

/-- The outcome of split: its last result. -/
def SplitP (w : World) (b : Bool) (e : Ending) (w' : World) : Prop := ∃ v1 v2 v3, e = .returned (.tuple #[v1, v2, v3, .bool b]) ∧ Below w.heap.size w w'

set_option maxHeartbeats 400000 in
theorem split_minus (w : World) (m : Int) (hm : w.cell? ⟨0, 0, none⟩ = some (.int .i64 m)) : Calls Try.prog 7 #[.string ⟨#[45]⟩] w (SplitP w false) := by
  go_enter Try.func7, Try.ntmps7
  go_wp2_with fail
  refine (cutp_minus w).mono ?_
  rintro e w1 ⟨rfl, hw⟩
  subst hw
  go_wp2_with fail
  refine (cut_nil _ m hm).mono ?_
  rintro e w2 ⟨rfl, n, hw⟩
  subst hw
  go_wp2_with fail
  refine (digits_nil _).mono ?_
  rintro e w3 ⟨rfl, hw⟩
  subst hw
  go_wp2
  refine bodyPost_ret (v := .tuple #[.string ⟨#[]⟩, .string ⟨#[]⟩, .bool true, .bool false]) (by simp [results, Try.results7, go_sem]) rfl ?_
  unfold SplitP
  exact ⟨_, _, _, rfl, below_drewN (Below.refl _ _) _⟩

set_option maxHeartbeats 400000 in
theorem split_point (w : World) (m : Int) (hm : w.cell? ⟨0, 0, none⟩ = some (.int .i64 m)) : Calls Try.prog 7 #[.string ⟨#[46]⟩] w (SplitP w false) := by
  go_enter Try.func7, Try.ntmps7
  go_wp2_with fail
  refine (cutp_other 46 (by decide) w).mono ?_
  rintro e w1 ⟨rfl, hw⟩
  subst hw
  go_wp2_with fail
  refine (cut_point _ m hm).mono ?_
  rintro e w2 ⟨rfl, n, hw⟩
  subst hw
  go_wp2_with fail
  refine (digits_nil _).mono ?_
  rintro e w3 ⟨rfl, hw⟩
  subst hw
  go_wp2
  refine bodyPost_ret (v := .tuple #[.string ⟨#[]⟩, .string ⟨#[]⟩, .bool false, .bool false]) (by simp [results, Try.results7, go_sem]) rfl ?_
  unfold SplitP
  exact ⟨_, _, _, rfl, below_drewN (Below.refl _ _) _⟩

set_option maxHeartbeats 400000 in
theorem split_digit (c : UInt8) (w : World) (m : Int) (hm : w.cell? ⟨0, 0, none⟩ = some (.int .i64 m)) (hc : 48 ≤ c.toNat ∧ c.toNat ≤ 57) : Calls Try.prog 7 #[.string ⟨#[c]⟩] w (SplitP w true) := by
  have h45 := hidden (show c ≠ 45 from fun e => by rw [e] at hc; exact absurd hc (by decide))
  have h46 := hidden (show c ≠ 46 from fun e => by rw [e] at hc; exact absurd hc (by decide))
  have HC := hidden hc
  clear hc
  go_enter Try.func7, Try.ntmps7
  go_wp2_with fail
  refine (cutp_other c h45.out w).mono ?_
  rintro e w1 ⟨rfl, hw⟩
  subst hw
  go_wp2_with fail
  refine (cut_other c h46.out _ m hm).mono ?_
  rintro e w2 ⟨rfl, n, hw⟩
  subst hw
  go_wp2_with fail
  refine (digits_yes c _ HC.out).mono ?_
  rintro e w3 ⟨rfl, hb⟩
  have HB := hidden ((below_drewN (Below.refl w1.heap.size w1) n).trans hb)
  clear hb
  go_wp2
  refine bodyPost_ret (v := .tuple #[.string ⟨#[c]⟩, .string ⟨#[]⟩, .bool false, .bool true]) (by simp [results, Try.results7, go_sem]) rfl ?_
  unfold SplitP
  exact ⟨_, _, _, rfl, HB.out⟩

set_option maxHeartbeats 400000 in
theorem split_other (c : UInt8) (w : World) (m : Int) (hm : w.cell? ⟨0, 0, none⟩ = some (.int .i64 m)) (hc : ¬ (48 ≤ c.toNat ∧ c.toNat ≤ 57)) (h1 : c ≠ 45) (h2 : c ≠ 46) : Calls Try.prog 7 #[.string ⟨#[c]⟩] w (SplitP w false) := by
  have h45 := hidden h1
  have h46 := hidden h2
  have HC := hidden hc
  clear hc h1 h2
  go_enter Try.func7, Try.ntmps7
  go_wp2_with fail
  refine (cutp_other c h45.out w).mono ?_
  rintro e w1 ⟨rfl, hw⟩
  subst hw
  go_wp2_with fail
  refine (cut_other c h46.out _ m hm).mono ?_
  rintro e w2 ⟨rfl, n, hw⟩
  subst hw
  go_wp2_with fail
  refine (digits_no c _ HC.out).mono ?_
  rintro e w3 ⟨rfl, hb⟩
  have HB := hidden ((below_drewN (Below.refl w1.heap.size w1) n).trans hb)
  clear hb
  go_wp2
  refine bodyPost_ret (v := .tuple #[.string ⟨#[c]⟩, .string ⟨#[]⟩, .bool false, .bool false]) (by simp [results, Try.results7, go_sem]) rfl ?_
  unfold SplitP
  exact ⟨_, _, _, rfl, HB.out⟩

theorem split_any (c : UInt8) (w : World) (m : Int) (hm : w.cell? ⟨0, 0, none⟩ = some (.int .i64 m)) : Calls Try.prog 7 #[.string ⟨#[c]⟩] w (SplitP w (decide (48 ≤ c.toNat ∧ c.toNat ≤ 57))) := by
  by_cases hc : 48 ≤ c.toNat ∧ c.toNat ≤ 57
  · rw [decide_eq_true hc]; exact split_digit c w m hm hc
  · rw [decide_eq_false hc]
    by_cases h1 : c = 45
    · subst h1; exact split_minus w m hm
    · by_cases h2 : c = 46
      · subst h2; exact split_point w m hm
      · exact split_other c w m hm hc h1 h2

set_option maxHeartbeats 400000 in
theorem valid_any (c : UInt8) (w : World) (m : Int) (hm : w.cell? ⟨0, 0, none⟩ = some (.int .i64 m)) :
    Calls Try.prog 5 #[.string ⟨#[c]⟩] w fun e w' => e = .returned (.bool (decide (48 ≤ c.toNat ∧ c.toNat ≤ 57))) ∧ Below w.heap.size w w' := by
  have HS := hidden (split_any c w m hm)
  obtain ⟨B, hB⟩ : ∃ B : Bool, B = decide (48 ≤ c.toNat ∧ c.toNat ≤ 57) := ⟨_, rfl⟩
  rw [← hB] at HS
  rw [← hB]
  clear hB hm
  go_enter Try.func5, Try.ntmps5
  go_wp2_with fail
  refine HS.out.mono ?_
  rintro e w1 ⟨v1, v2, v3, rfl, hb⟩
  have HB := hidden hb
  clear hb
  go_wp2
  go_ret
  exact ⟨rfl, HB.out⟩

end Go.Proofs.Qxb6608845a.Iw
