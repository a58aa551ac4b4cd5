import Derived.Test.Qxb6608554aHgA
namespace Go.Proofs.Qxb6608554a.Hg
open Go.RowKit

set_option maxHeartbeats 1000000 in
theorem law_in (s : ByteArray) (i : Nat) (c : UInt8) (w : World) (hl : s.size ≤ 1048576) (hi : i ≤ s.size) :
    Calls Try.prog 4 #[.string s, .int .i64 i, .int .u8 (c.toNat : Int)] w fun e w' => e = .returned (.bool true) ∧ Grown w w' := by
  obtain ⟨y, hy⟩ : ∃ y : Int, y = (c.toNat : Int) := ⟨_, rfl⟩
  rw [← hy]
  have HY := hidden hy
  clear hy
  go_enter Try.func4, Try.ntmps4
  go_wp2_with (go_at_call 8; refine (zzBytes_yes _ _ _ _ (by omega)).mono ?_; rintro e w' ⟨rfl, rfl⟩)
  have hconv : ∀ (w' : World) (n c' : Nat), w'.cell? ⟨n, 0, none⟩ = some (.int .u8 y) → (convert 26 9 (.slice (some ⟨n, 0, none⟩) 1 c')).run Try.prog w' = .ok (.string ⟨#[c]⟩) w' := by
    intro w' n c' hc
    refine run_convert_bytes_back w' 26 9 5 ⟨n, 0, none⟩ c' [c] Try.underlying26 Try.underlying5 Try.underlying9 (fun j hj => ?_)
    obtain rfl : j = 0 := by simp at hj; omega
    rw [HY.out] at hc
    simpa [Addr.add] using hc
  go_cut [7] (fun t w' => t = .string (s.extract 0 i ++ ⟨#[c]⟩ ++ s.extract i s.size) ∧ Grown w w')
  case first =>
    go_region
    all_goals (try go_wp2)
    go_meet
    case rel => exact ⟨rfl, by repeat (first | exact Grown.refl _ | apply Grown.drew | apply Grown.alloc)⟩
  case rest =>
    clear hconv
    obtain ⟨rfl, hgr⟩ := hcut
    have HGR := hidden hgr
    clear hgr
    obtain ⟨T, hT⟩ : ∃ T, T = s.extract 0 i ++ ⟨#[c]⟩ ++ s.extract i s.size := ⟨_, rfl⟩
    have hTl : T.data.toList = s.data.toList.take i ++ c :: s.data.toList.drop i := by
      rw [hT]
      simp only [ByteArray.data_append, Array.toList_append, Lib.extract_data, List.drop_zero, Nat.sub_zero]
      rw [List.take_of_length_le (l := s.data.toList.drop i) (by simp)]
      simp
    rw [← hT]
    clear hT
    have hsl : s.data.toList = s.data.toList.take i ++ s.data.toList.drop i := (List.take_append_drop _ _).symm
    have hbef : grp s.data.toList = grp (s.data.toList.take i ++ s.data.toList.drop i) := by rw [← hsl]
    have HS := hidden (zzgroup_any s wc)
    have HTg := hidden (zzgroup_any T wc)
    rw [hTl] at HTg
    rw [hbef] at HS
    have h41 := hidden (has_any (s.extract i s.size) 41 wc (by simp [ByteArray.size_extract]; omega))
    have h40 := hidden (has_any (s.extract 0 i) 40 wc (by simp [ByteArray.size_extract]; omega))
    rw [Lib.extract_to_end] at h41
    rw [Lib.extract_data, List.drop_zero, Nat.sub_zero] at h40
    clear hTl hsl hbef
    obtain ⟨X, hX⟩ : ∃ X, X = s.data.toList.take i := ⟨_, rfl⟩
    obtain ⟨Y, hYy⟩ : ∃ Y, Y = s.data.toList.drop i := ⟨_, rfl⟩
    rw [← hX, ← hYy] at HTg HS
    rw [← hYy] at h41
    rw [← hX] at h40
    clear hX hYy
    obtain ⟨b1, hb1⟩ : ∃ b1, b1 = grp (X ++ Y) := ⟨_, rfl⟩
    rw [← hb1] at HS
    by_cases hc40 : c = 40
    · subst hc40
      have hy1 : (y == 40) = true := by rw [HY.out]; decide
      have hy2 : (y == 41) = false := by rw [HY.out]; decide
      rw [grp_open, ← hb1] at HTg
      obtain ⟨b2, hb2⟩ : ∃ b2, b2 = decide ((41 : UInt8) ∈ Y) := ⟨_, rfl⟩
      rw [← hb2] at HTg h41
      clear hb1 hb2
      go_wp2_with fail
      refine HS.out.mono ?_
      rintro e w1 ⟨rfl, hw⟩
      subst hw
      go_wp2_with fail
      refine HTg.out.mono ?_
      rintro e w1 ⟨rfl, hw⟩
      subst hw
      cases b1 with
      | true =>
        go_wp2
        go_ret
        exact ⟨rfl, HGR.out⟩
      | false =>
        go_wp2_with fail
        refine h41.out.mono ?_
        rintro e w1 ⟨rfl, hw⟩
        subst hw
        cases b2
        all_goals
          go_wp2
          go_ret
          exact ⟨rfl, HGR.out⟩
    · by_cases hc41 : c = 41
      · subst hc41
        have hy1 : (y == 40) = false := by rw [HY.out]; decide
        have hy2 : (y == 41) = true := by rw [HY.out]; decide
        rw [grp_close, ← hb1] at HTg
        obtain ⟨b2, hb2⟩ : ∃ b2, b2 = decide ((40 : UInt8) ∈ X) := ⟨_, rfl⟩
        rw [← hb2] at HTg h40
        clear hb1 hb2 hc40
        go_wp2_with fail
        refine HS.out.mono ?_
        rintro e w1 ⟨rfl, hw⟩
        subst hw
        go_wp2_with fail
        refine HTg.out.mono ?_
        rintro e w1 ⟨rfl, hw⟩
        subst hw
        cases b1 with
        | true =>
          go_wp2
          go_ret
          exact ⟨rfl, HGR.out⟩
        | false =>
          go_wp2_with fail
          refine h40.out.mono ?_
          rintro e w1 ⟨rfl, hw⟩
          subst hw
          cases b2
          all_goals
            go_wp2
            go_ret
            exact ⟨rfl, HGR.out⟩
      · have hy1 : (y == 40) = false := by
          rw [HY.out, beq_eq_false_iff_ne]
          intro e
          exact hc40 (UInt8.toNat_inj.1 (show c.toNat = 40 by omega))
        have hy2 : (y == 41) = false := by
          rw [HY.out, beq_eq_false_iff_ne]
          intro e
          exact hc41 (UInt8.toNat_inj.1 (show c.toNat = 41 by omega))
        rw [grp_other hc40 hc41, ← hb1] at HTg
        clear hb1 hc40 hc41
        go_wp2_with fail
        refine HS.out.mono ?_
        rintro e w1 ⟨rfl, hw⟩
        subst hw
        go_wp2_with fail
        refine HTg.out.mono ?_
        rintro e w1 ⟨rfl, hw⟩
        subst hw
        cases b1
        all_goals
          go_wp2
          go_ret
          exact ⟨rfl, HGR.out⟩

set_option maxHeartbeats 400000 in
theorem law_long (s : ByteArray) (i c : Int) (w : World) (h : 1048576 < s.size) :
    Calls Try.prog 4 #[.string s, .int .i64 i, .int .u8 c] w fun e w' => e = .returned (.bool true) ∧ Grown w w' := by
  go_enter Try.func4, Try.ntmps4
  go_wp2_with (go_at_call 8; refine (zzBytes_no _ _ _ _ (by omega)).mono ?_; rintro e w' ⟨rfl, rfl⟩)
  go_ret
  exact ⟨rfl, Grown.refl _⟩
set_option maxHeartbeats 400000 in
theorem law_neg (s : ByteArray) (i c : Int) (w : World) (h : s.size ≤ 1048576) (hi : i < 0) :
    Calls Try.prog 4 #[.string s, .int .i64 i, .int .u8 c] w fun e w' => e = .returned (.bool true) ∧ Grown w w' := by
  go_enter Try.func4, Try.ntmps4
  go_wp2_with (go_at_call 8; refine (zzBytes_yes _ _ _ _ (by omega)).mono ?_; rintro e w' ⟨rfl, rfl⟩)
  go_ret
  exact ⟨rfl, Grown.refl _⟩
set_option maxHeartbeats 400000 in
theorem law_past (s : ByteArray) (i c : Int) (w : World) (h : s.size ≤ 1048576) (h0 : 0 ≤ i) (hi : (s.size : Int) < i) :
    Calls Try.prog 4 #[.string s, .int .i64 i, .int .u8 c] w fun e w' => e = .returned (.bool true) ∧ Grown w w' := by
  go_enter Try.func4, Try.ntmps4
  go_wp2_with (go_at_call 8; refine (zzBytes_yes _ _ _ _ (by omega)).mono ?_; rintro e w' ⟨rfl, rfl⟩)
  go_ret
  exact ⟨rfl, Grown.refl _⟩

end Go.Proofs.Qxb6608554a.Hg
