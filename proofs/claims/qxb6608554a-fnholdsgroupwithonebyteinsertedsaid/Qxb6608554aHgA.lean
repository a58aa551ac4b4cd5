import Derived.Test.Qxb6608554aRows
import Derived.Test.Qxb6608554aShelf
import Derived.Test.Qxb6608554aHgPlain
import Derived.WalkKit
import Derived.WalkSpells
import Derived.WalkLawsBesides
import Derived.Deep.DeepCutAuto
import Derived.Lib.IndexBytes
namespace Go.Proofs.Qxb6608554a.Hg
open Go.RowKit

theorem hidden {p : Prop} (h : p) : Hid p := h

set_option maxHeartbeats 400000 in
theorem zzBytes_yes (s : ByteArray) (i c : Int) (w : World) (h : s.size ≤ 1048576) :
    Calls Try.prog 8 #[.string s, .int .i64 i, .int .u8 c] w fun e w' => e = .returned (.bool true) ∧ w = w' := by
  go_enter Try.func8, Try.ntmps8
  go_wp2
  go_ret
  exact ⟨rfl, rfl⟩
set_option maxHeartbeats 400000 in
theorem zzBytes_no (s : ByteArray) (i c : Int) (w : World) (h : 1048576 < s.size) :
    Calls Try.prog 8 #[.string s, .int .i64 i, .int .u8 c] w fun e w' => e = .returned (.bool false) ∧ w = w' := by
  go_enter Try.func8, Try.ntmps8
  go_wp2
  go_ret
  exact ⟨rfl, rfl⟩

theorem at_list (s : ByteArray) (k : Nat) (h : k < s.size) : s.data.toList.getD k 0 = s[k] := by
  have : k < s.data.toList.length := by simpa using h
  simp [List.getElem?_eq_getElem this]
  rfl

set_option maxHeartbeats 400000 in
theorem has_any (s : ByteArray) (c : UInt8) (w : World) (hl : s.size ≤ 1048577) :
    Calls Try.prog 7 #[.string s, .int .u8 (c.toNat : Int)] w fun e w' => e = .returned (.bool (decide (c ∈ s.data.toList))) ∧ w = w' := by
  obtain ⟨y, hy⟩ : ∃ y : Int, y = (c.toNat : Int) := ⟨_, rfl⟩
  rw [← hy]
  have HY := hidden hy
  obtain ⟨B, hB⟩ : ∃ B : Bool, B = decide (c ∈ s.data.toList) := ⟨_, rfl⟩
  rw [← hB]
  have HB := hidden hB
  clear hy hB
  go_enter Try.func7, Try.ntmps7
  go_wp2
  go_loop [5] (fun i => ∃ k : Nat, k ≤ s.size ∧ i = .int .i64 k ∧ ∀ j, j < k → s.data.toList.getD j 0 ≠ c) (fun i => s.size - (intOf i).toNat)
  case atStart => exact ⟨0, Nat.zero_le _, rfl, fun j h => by omega⟩
  case round =>
    obtain ⟨k, hk, rfl, hall⟩ := hrel
    have HA := hidden hall
    clear hall
    by_cases hlt : k < s.size
    · by_cases he : s.data.toList.getD k 0 = c
      · have hxy : (((s[k]'hlt).toNat : Int) == y) = true := by rw [HY.out, ← he, at_list s k hlt]; simp
        have HM : Hid (B = true) := by
          show B = true
          rw [HB.out, decide_eq_true_iff, ← he]
          have : k < s.data.toList.length := by simpa using hlt
          simp [List.getElem?_eq_getElem this]
        clear he
        go_wp2
        go_ret
        exact ⟨by rw [HM.out]; rfl, rfl⟩
      · have hxy : (((s[k]'hlt).toNat : Int) == y) = false := by
          rw [HY.out, ← at_list s k hlt, beq_eq_false_iff_ne]
          intro e
          exact he (UInt8.toNat_inj.1 (by omega))
        have HE := hidden he
        clear he
        go_wp2
        go_round
        case rel => exact ⟨k + 1, by omega, by go_num, fun j hj => by
          rcases Nat.lt_or_eq_of_le (Nat.le_of_lt_succ hj) with h | h
          · exact HA.out j h
          · subst h; exact HE.out⟩
        case measure => simp [intOf]; omega
    · have HM : Hid (B = false) := by
        show B = false
        rw [HB.out, decide_eq_false_iff_not]
        intro hm
        obtain ⟨j, hj, he⟩ := List.getElem_of_mem hm
        have hjs : j < s.size := by simpa using hj
        exact HA.out j (by omega) (by simp [List.getElem?_eq_getElem hj, he])
      go_wp2
      go_ret
      exact ⟨by rw [HM.out]; rfl, rfl⟩

theorem index40 (s : ByteArray) (w : World) : Calls Try.prog 10 #[.string s, .int .u8 40] w fun e w' => e = .returned (.int .i64 (Lib.indexByte s.data.toList 40)) ∧ w' = w := Try.strings_IndexByte s 40 w
theorem index41 (s : ByteArray) (w : World) : Calls Try.prog 10 #[.string s, .int .u8 41] w fun e w' => e = .returned (.int .i64 (Lib.indexByte s.data.toList 41)) ∧ w' = w := Try.strings_IndexByte s 41 w

set_option maxHeartbeats 400000 in
theorem group_any (s : ByteArray) (w : World) :
    Calls Try.prog 9 #[.string s] w fun e w' => e = .returned (.bool (grp s.data.toList)) ∧ w = w' := by
  obtain ⟨B, hB⟩ : ∃ B : Bool, B = grp s.data.toList := ⟨_, rfl⟩
  rw [← hB]
  have hg := grp_index s.data.toList
  have hle := index_le 40 s.data.toList
  rw [show s.data.toList.length = s.size from by simp] at hle
  rw [← hB] at hg
  obtain ⟨x, hx⟩ : ∃ x : Int, x = Lib.indexByte s.data.toList 40 := ⟨_, rfl⟩
  rw [← hx] at hg hle
  have HX := hidden hx
  have HG := hidden hg
  clear hB hg hx
  go_enter Try.func9, Try.ntmps9
  go_wp2_with fail
  refine (index40 s w).mono ?_
  rintro e w0 ⟨rfl, hw⟩
  subst hw
  rw [← HX.out]
  by_cases h0 : 0 ≤ x
  · obtain ⟨k, hk⟩ : ∃ k : Nat, x = k := ⟨x.toNat, by omega⟩
    subst hk
    have hkl : k ≤ s.size := by omega
    go_wp2_with fail
    refine (index41 _ w0).mono ?_
    rintro e w1 ⟨rfl, hw⟩
    subst hw
    have hb := HG.out.1 h0
    rw [Int.toNat_natCast, ← Lib.extract_to_end] at hb
    obtain ⟨z, hz⟩ : ∃ z : Int, z = Lib.indexByte (s.extract k s.size).data.toList 41 := ⟨_, rfl⟩
    rw [← hz] at hb
    rw [← hz]
    by_cases hz0 : 0 ≤ z
    · have HBt : Hid (B = true) := by rw [decide_eq_true hz0] at hb; exact hb
      clear hb hz
      go_wp2
      go_ret
      exact ⟨by rw [HBt.out]; rfl, rfl⟩
    · have HBt : Hid (B = false) := by rw [decide_eq_false hz0] at hb; exact hb
      have hd1 : decide ((0 : Int) ≤ z) = false := decide_eq_false hz0
      clear hb hz
      go_wp2
      go_ret
      exact ⟨by rw [HBt.out]; rfl, rfl⟩
  · have HBt : Hid (B = false) := HG.out.2 (by omega)
    go_wp2
    go_ret
    exact ⟨by rw [HBt.out]; rfl, rfl⟩

set_option maxHeartbeats 400000 in
theorem zzgroup_any (s : ByteArray) (w : World) :
    Calls Try.prog 6 #[.string s] w fun e w' => e = .returned (.bool (grp s.data.toList)) ∧ w = w' := by
  obtain ⟨B, hB⟩ : ∃ B : Bool, B = grp s.data.toList := ⟨_, rfl⟩
  have HC := hidden (group_any s w)
  rw [← hB] at HC
  rw [← hB]
  clear hB
  go_enter Try.func6, Try.ntmps6
  go_wp2_with fail
  refine HC.out.mono ?_
  rintro e w0 ⟨rfl, hw⟩
  subst hw
  go_wp2
  go_ret
  exact ⟨rfl, rfl⟩

end Go.Proofs.Qxb6608554a.Hg
