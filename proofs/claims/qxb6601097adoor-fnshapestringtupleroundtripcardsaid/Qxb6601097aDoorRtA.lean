import Derived.Test.Qxb6601097aDoorRows
import Derived.WalkKit
import Derived.WalkSpells
import Derived.WalkLawsBesides
namespace Go.Proofs.Qxb6601097aDoor.Rt
open Go.RowKit

theorem info2 : (Tryd.prog.info? 2).map (fun i => (i.zero, i.size, i.bytes)) = some (some (.int .i64 0), 1, 8) := by kernel_rfl

set_option maxHeartbeats 400000 in
theorem zzBytes_yes (a : Option Addr) (len cap : Nat) (w : World) (h : len ≤ 1048576) :
    Calls Tryd.prog 12 #[.slice a len cap] w fun e w' => e = .returned (.bool true) ∧ w = w' := by
  go_enter Tryd.func12, Tryd.ntmps12
  go_wp2
  go_ret
  exact ⟨rfl, rfl⟩

set_option maxHeartbeats 400000 in
theorem zzBytes_no (a : Option Addr) (len cap : Nat) (w : World) (h : 1048576 < len) :
    Calls Tryd.prog 12 #[.slice a len cap] w fun e w' => e = .returned (.bool false) ∧ w = w' := by
  go_enter Tryd.func12, Tryd.ntmps12
  go_wp2
  go_ret
  exact ⟨rfl, rfl⟩

set_option maxHeartbeats 400000 in
theorem clone_nil (w : World) :
    Calls Tryd.prog 9 #[.slice none 0 0] w fun e w' => e = .returned (.slice none 0 0) ∧ w' = w := by
  have k1 := @Lib.run_eql_slice_nil Tryd.prog
  go_enter Tryd.func9, Tryd.ntmps9
  go_wp2
  go_ret
  exact ⟨rfl, rfl⟩

/-- What the clone's row holds behind k rounds. -/
def part (zs : List Int) (len k : Nat) : List Value := (zs.take k).map (Value.int .i64) ++ List.replicate (len - k) (.int .i64 0)
theorem part_zero (zs : List Int) (len : Nat) : part zs len 0 = List.replicate len (.int .i64 0) := by simp [part]
theorem part_set (zs : List Int) (len k : Nat) (h : k < len) (hz : len ≤ zs.length) : (part zs len k).set k (.int .i64 (zs.getD k 0)) = part zs len (k + 1) := by
  have e : len - k = (len - (k + 1)) + 1 := by omega
  have hk : k < zs.length := by omega
  unfold part
  rw [e, List.replicate_succ, List.set_append_right _ _ (by simp; omega), List.take_succ_eq_append_getElem hk, List.map_append, List.append_assoc]
  congr 1
  simp [List.getD_eq_getElem?_getD, List.getElem?_eq_getElem hk, Nat.min_eq_left (Nat.le_of_lt hk)]

theorem clone_step {w wr : World} {N : Nat} {zs : List Int} {len k : Nat} (hk : k < len) (hz : len ≤ zs.length)
    (ho : wr.ownsRow N 2 1 (.slice (some ⟨N, 0, none⟩) len len) len (part zs len k)) (hb : Below N w wr) :
    (wr.setCell ⟨N, k, none⟩ (.int .i64 (zs.getD k 0))).ownsRow N 2 1 (.slice (some ⟨N, 0, none⟩) len len) len (part zs len (k + 1)) ∧ Below N w (wr.setCell ⟨N, k, none⟩ (.int .i64 (zs.getD k 0))) := by
  have := ho.stored k (.int .i64 (zs.getD k 0))
  rw [part_set zs len k hk hz] at this
  exact ⟨this.1, hb.setCell (Nat.le_refl _) _⟩

set_option maxHeartbeats 400000 in
theorem clone_some (b off len cap : Nat) (zs : List Int) (w : World) (hlen : len ≤ 131072) (hz : len ≤ zs.length)
    (hc : ∀ i, i < len → w.cell? ⟨b, off + i, none⟩ = some (.int .i64 (zs.getD i 0))) (hb : b < w.heap.size) :
    Calls Tryd.prog 9 #[.slice (some ⟨b, off, none⟩) len cap] w fun e w' => e = .returned (.slice (some ⟨w.heap.size, 0, none⟩) len len) ∧
      w'.ownsRow w.heap.size 2 1 (.slice (some ⟨w.heap.size, 0, none⟩) len len) len ((zs.take len).map (Value.int .i64)) ∧ Below w.heap.size w w' := by
  have k1 := @Lib.run_eql_slice_nil Tryd.prog
  obtain ⟨i0, hi, hz0, hz1, hz2⟩ := info_parts info2
  go_enter Tryd.func9, Tryd.ntmps9
  go_wp2_with (at_make; refine wpList_make_full _ rfl _ _ 22 rfl w.heap.size 2 i0 (.int .i64 0) 1 Tryd.underlying22 hi hz0 hz1 .i64 .i64 _ _ len rfl rfl rfl rfl ?c1 ?c2 ?c3 ?_)
  case c1 => rw [hz2]; omega
  case c2 => unfold maxLen; omega
  case c3 => exact Nat.le_refl _
  intro w1 hown hgrow
  have hown0 : w1.ownsRow w.heap.size 2 1 (.slice (some ⟨w.heap.size, 0, none⟩) len len) len (part zs len 0) := by
    rw [part_zero, ← toList_madeCells_one]; simpa [Value.cells] using hown
  have hbel : Below w.heap.size w w1 := (Below.refl _ _).grown hgrow (Nat.le_refl _) (by intro k h; cases h)
  clear hown hgrow
  go_wp2
  go_loopw [4] (fun i wr => ∃ k : Nat, k ≤ len ∧ i = .int .i64 k ∧ wr.ownsRow w.heap.size 2 1 (.slice (some ⟨w.heap.size, 0, none⟩) len len) len (part zs len k) ∧ Below w.heap.size w wr) (fun i _ => len - (intOf i).toNat)
  case atStart => exact ⟨0, Nat.zero_le _, rfl, hown0, hbel⟩
  case round =>
    obtain ⟨k, hk, rfl, ho, hbr⟩ := hrel
    by_cases hlt : k < len
    · have hcell : wr.cell? ⟨b, off + k, none⟩ = some (.int .i64 (zs.getD k 0)) := by rw [hbr.cell (by exact hb)]; exact hc k hlt
      have hfz := ho.frozenAt k
      have hst : Hid _ := clone_step hlt hz ho hbr
      have ⟨v, hv⟩ : ∃ v, wr.cell? ⟨w.heap.size, k, none⟩ = some v := by
        rw [ho.cellAt k (by omega)]; exact ⟨_, List.getElem?_eq_getElem (by rw [ho.1]; omega)⟩
      clear hc hown0 hbel ho hbr k1
      go_wp2
      go_roundw
      case rel => exact ⟨k + 1, by omega, by go_num, hst.out.1, hst.out.2⟩
      case measure => simp [intOf]; omega
    · go_wp2
      go_ret
      have e : k = len := by omega
      subst e
      exact ⟨rfl, by simpa [part] using ho, hbr⟩

end Go.Proofs.Qxb6601097aDoor.Rt
