import Derived.Test.Qxb6601097aDoorRtC
import Derived.Test.Qxb6601097aDoorRtA
import Derived.Lib.SmallJoins
import Derived.Lib.ItoaLen
import Derived.Lib.AppendIntMem
namespace Go.Proofs.Qxb6601097aDoor.Rt
open Go.RowKit

theorem info9 : (Tryd.prog.info? 9).map (fun i => (i.zero, i.size, i.bytes)) = some (some (.string ⟨#[]⟩), 1, 16) := by kernel_rfl

/-- The name of the one table that is read, as the given row spells it. -/
def powName : String := (Rows.fnShapeStringTupleRoundTripRow.laid.map (·.1)).getD 2 (String.ofList [])
abbrev TabW (w : World) : Prop := Lib.TabIs Tryd.prog w powName .u64 Lib.pow10Tab
theorem gPow : Tryd.prog.globalNamed powName = some 0 := by kernel_rfl
theorem tabW_below {w w' : World} {B : Nat} (h : TabW w) (hb : Below B w w') (hB : w.heap.size ≤ B) : TabW w' := Joins.tab_stays gPow h hb hB

theorem format_any (n : Int) (h0 : -9223372036854775808 ≤ n) (h1 : n ≤ 9223372036854775807) (w : World) (htab : TabW w) :
    Calls Tryd.prog 25 #[.int .i64 n, .int .i64 10] w fun e w' => e = .returned (.string ⟨(Lib.itoa n).toArray⟩) ∧ Below w.heap.size w w' :=
  (Any.strconv_FormatInt_10 Tryd.laysM173 n h0 h1 w htab).mono fun e w' ⟨he, k, os, hw⟩ => ⟨he, by subst hw; exact Lib.below_grow _ _ (Nat.le_refl _) _ _⟩

/-- What the row of texts holds behind k rounds. -/
def numStr (z : Int) : Value := .string ⟨(Lib.itoa z).toArray⟩
def partS (zs : List Int) (len k : Nat) : List Value := (zs.take k).map numStr ++ List.replicate (len - k) (.string ⟨#[]⟩)
theorem partS_zero (zs : List Int) (len : Nat) : partS zs len 0 = List.replicate len (.string ⟨#[]⟩) := by simp [partS]
theorem partS_set (zs : List Int) (len k : Nat) (h : k < len) (hz : len ≤ zs.length) : (partS zs len k).set k (numStr (zs.getD k 0)) = partS zs len (k + 1) := by
  have e : len - k = (len - (k + 1)) + 1 := by omega
  have hk : k < zs.length := by omega
  unfold partS
  rw [e, List.replicate_succ, List.set_append_right _ _ (by simp; omega), List.take_succ_eq_append_getElem hk, List.map_append, List.append_assoc]
  congr 1
  simp [List.getD_eq_getElem?_getD, List.getElem?_eq_getElem hk, Nat.min_eq_left (Nat.le_of_lt hk)]

theorem getD_mem {zs : List Int} {k : Nat} (h : k < zs.length) : zs.getD k 0 ∈ zs := by simp [List.getElem?_eq_getElem h]

theorem shape_step {w wr w2 : World} {N len k : Nat} {zs : List Int} (hk : k < len) (hz : len ≤ zs.length) (hN : w.heap.size ≤ N)
    (ho : wr.ownsRow N 9 1 (.slice (some ⟨N, 0, none⟩) len len) len (partS zs len k)) (hbr : Below w.heap.size w wr) (hb2 : Below wr.heap.size wr w2) :
    (w2.setCell ⟨N, k, none⟩ (numStr (zs.getD k 0))).ownsRow N 9 1 (.slice (some ⟨N, 0, none⟩) len len) len (partS zs len (k + 1)) ∧ Below w.heap.size w (w2.setCell ⟨N, k, none⟩ (numStr (zs.getD k 0))) := by
  have h1 := (ho.kept (gb_of_below (row := none) hb2) (.inr (by simp [Value.ownBlock]))).stored k (numStr (zs.getD k 0))
  rw [partS_set zs len k hk hz] at h1
  exact ⟨h1.1, (hbr.trans (hb2.mono hbr.size)).setCell hN _⟩
theorem shape_cells {wr w2 : World} {N len k : Nat} {zs : List Int} (hk : k < len)
    (ho : wr.ownsRow N 9 1 (.slice (some ⟨N, 0, none⟩) len len) len (partS zs len k)) (hb2 : Below wr.heap.size wr w2) :
    (∃ v, w2.cell? ⟨N, k, none⟩ = some v) ∧ w2.frozen? ⟨N, k, none⟩ = false := by
  have h1 := ho.kept (gb_of_below (row := none) hb2) (.inr (by simp [Value.ownBlock]))
  exact ⟨by rw [h1.cellAt k (by omega)]; exact ⟨_, List.getElem?_eq_getElem (by rw [h1.1]; omega)⟩, h1.frozenAt k⟩
theorem after_make {w w1 : World} {o : Obj} {v : Value} {j : Nat} (h : (w.alloc o).grownBy w1 none) (hc : (w.alloc o).cell? ⟨w.heap.size, j, none⟩ = some v) : Below w.heap.size w w1 ∧ w1.cell? ⟨w.heap.size, j, none⟩ = some v :=
  ⟨((Below.refl _ w).alloc (Nat.le_refl _) o).grown h (by simp) (by intro k h; cases h), h.cell hc (by simp)⟩

/-- The text of a shape, as shapeString writes it. -/
def commaTail (r : List Int) : List UInt8 := (r.map fun z => [44, 32] ++ Lib.itoa z).flatten
theorem join_nums (l : List Int) : Lib.join (l.map Lib.itoa) [44, 32] = match l with | [] => [] | z :: r => Lib.itoa z ++ commaTail r := by
  cases l with
  | nil => rfl
  | cons z r => rw [List.map_cons, Lib.join_cons]; simp [Lib.joinTail, commaTail, Function.comp_def]
theorem commaTail_length (r : List Int) (hr : ∀ z ∈ r, -9223372036854775808 ≤ z ∧ z ≤ 9223372036854775807) : (commaTail r).length ≤ 23 * r.length := by
  induction r with
  | nil => simp [commaTail]
  | cons z r ih =>
    have h1 := Lib.itoa_length_le z (hr z (by simp)).1 (hr z (by simp)).2
    have h2 := ih fun y hy => hr y (by simp [hy])
    simp only [commaTail, List.map_cons, List.flatten_cons, List.length_append, List.length_cons, List.length_nil] at h2 ⊢
    omega
theorem join_length (l : List Int) (hr : ∀ z ∈ l, -9223372036854775808 ≤ z ∧ z ≤ 9223372036854775807) : (Lib.join (l.map Lib.itoa) [44, 32]).length ≤ 23 * l.length := by
  rw [join_nums]
  cases l with
  | nil => simp
  | cons z r =>
    have h1 := Lib.itoa_length_le z (hr z (by simp)).1 (hr z (by simp)).2
    have h2 := commaTail_length r fun y hy => hr y (by simp [hy])
    simp only [List.length_append, List.length_cons]
    omega

def shapeText : List Int → List UInt8
  | [z] => 40 :: (Lib.itoa z ++ [44, 41])
  | l => 40 :: (Lib.join (l.map Lib.itoa) [44, 32] ++ [41])
theorem shapeText_one (l : List Int) (h : l.length = 1) : shapeText l = 40 :: (Lib.itoa (l.getD 0 0) ++ [44, 41]) := by
  match l, h with
  | [z], _ => rfl
theorem shapeText_other (l : List Int) (h : l.length ≠ 1) : shapeText l = 40 :: (Lib.join (l.map Lib.itoa) [44, 32] ++ [41]) := by
  match l, h with
  | [], _ => rfl
  | _ :: _ :: _, _ => rfl
theorem shapeText_length (l : List Int) (hr : ∀ z ∈ l, -9223372036854775808 ≤ z ∧ z ≤ 9223372036854775807) : (shapeText l).length ≤ 23 * l.length + 3 := by
  by_cases h : l.length = 1
  · rw [shapeText_one l h]
    have h1 := Lib.itoa_length_le (l.getD 0 0) (hr _ (getD_mem (by omega))).1 (hr _ (getD_mem (by omega))).2
    simp only [List.length_cons, List.length_append, List.length_nil]
    omega
  · rw [shapeText_other l h]
    have := join_length l hr
    simp only [List.length_cons, List.length_append, List.length_nil]
    omega

theorem text_one (S : ByteArray) (l : List Int) (h : l.length = 1) (hS : S = ⟨(Lib.itoa (l.getD 0 0)).toArray⟩) : ((⟨#[40]⟩ : ByteArray) ++ S ++ ⟨#[44, 41]⟩).data.toList = shapeText l := by
  subst hS; rw [shapeText_one l h]; simp [ByteArray.data_append]
theorem text_other (S : ByteArray) (l : List Int) (h : l.length ≠ 1) (hS : S = ⟨(Lib.join (l.map Lib.itoa) [44, 32]).toArray⟩) : ((⟨#[40]⟩ : ByteArray) ++ S ++ ⟨#[41]⟩).data.toList = shapeText l := by
  subst hS; rw [shapeText_other l h]; simp [ByteArray.data_append]

theorem join_any (B N k : Nat) (l : List Int) (hl : l.length = k) (hk : k ≤ 131072) (hr : ∀ z ∈ l, -9223372036854775808 ≤ z ∧ z ≤ 9223372036854775807) (w : World)
    (ho : w.ownsRow B 9 1 (.slice (some ⟨N, 0, none⟩) k k) k (l.map numStr)) :
    Calls Tryd.prog 26 #[.slice (some ⟨N, 0, none⟩) k k, .string ⟨#[44, 32]⟩] w fun e w' => e = .returned (.string ⟨(Lib.join (l.map Lib.itoa) [44, 32]).toArray⟩) ∧ Below w.heap.size w w' := by
  have hx : ((l.map fun z => (⟨(Lib.itoa z).toArray⟩ : ByteArray)).map (·.data.toList)) = l.map Lib.itoa := by simp [Function.comp_def]
  have hlen := join_length l hr
  have := Tryd.strings_Join N 0 k (l.map fun z => (⟨(Lib.itoa z).toArray⟩ : ByteArray)) ⟨#[44, 32]⟩ w
    (fun j x hj => by
      have hjl : j < l.length := by
        have := (List.getElem?_eq_some_iff.1 hj).1
        simpa using this
      rw [Nat.zero_add, ho.cellAt j (by omega)]
      simp only [List.getElem?_map, List.getElem?_eq_getElem hjl, Option.map_some, Option.some.injEq] at hj ⊢
      rw [← hj]; rfl)
    (ho.lt N rfl).2 (by simp; omega) (by simp; omega) (by rw [hx, show (⟨#[44, 32]⟩ : ByteArray).data.toList = [44, 32] from rfl]; omega)
  rw [hx, show (⟨#[44, 32]⟩ : ByteArray).data.toList = [44, 32] from rfl, List.length_map, hl] at this
  exact this

set_option maxHeartbeats 400000 in
theorem shape_some (b off len cap : Nat) (zs : List Int) (w : World) (hlen : len ≤ 131072) (hz : len ≤ zs.length) (hr : ∀ z ∈ zs, -9223372036854775808 ≤ z ∧ z ≤ 9223372036854775807)
    (hc : ∀ i, i < len → w.cell? ⟨b, off + i, none⟩ = some (.int .i64 (zs.getD i 0))) (hb : b < w.heap.size) (htab : TabW w) :
    Calls Tryd.prog 21 #[.agg #[.string ⟨#[]⟩, .bool false, .slice (some ⟨b, off, none⟩) len cap, .int .i64 0]] w fun e w' => ∃ s, e = .returned (.string s) ∧ s.data.toList = shapeText (zs.take len) ∧ Below w.heap.size w w' := by
  obtain ⟨i0, hi, hz0, hz1, hz2⟩ := info_parts info9
  have HT : Hid (TabW w) := htab
  have HR := hidden hr
  have HC := hidden hc
  clear htab hr hc
  go_enter Tryd.func21, Tryd.ntmps21
  go_wp2_with (at_make; refine wpList_make_full _ rfl _ _ 45 rfl (w.heap.size + 1) 9 i0 (.string ⟨#[]⟩) 1 Tryd.underlying45 hi hz0 hz1 .i64 .i64 _ _ len rfl rfl rfl rfl ?c1 ?c2 ?c3 ?_)
  case c1 => rw [hz2]; omega
  case c2 => unfold maxLen; omega
  case c3 => simp
  intro w1 hown hgrow
  have hown0 : w1.ownsRow (w.heap.size + 1) 9 1 (.slice (some ⟨w.heap.size + 1, 0, none⟩) len len) len (partS zs len 0) := by
    rw [partS_zero, ← toList_madeCells_one]; simpa [Value.cells] using hown
  obtain ⟨hbel, hcell⟩ := after_make hgrow (v := .slice (some ⟨b, off, none⟩) len cap) (j := 2) (by simp)
  clear hown hgrow
  have HO := hidden hown0
  have HB := hidden hbel
  clear hown0 hbel
  go_wp2
  go_loopw [13] (fun i wr => ∃ k : Nat, k ≤ len ∧ i = .int .i64 k ∧ wr.ownsRow (w.heap.size + 1) 9 1 (.slice (some ⟨w.heap.size + 1, 0, none⟩) len len) len (partS zs len k) ∧ Below w.heap.size w wr) (fun i _ => len - (intOf i).toNat)
  case atStart => exact ⟨0, Nat.zero_le _, rfl, HO.out, HB.out⟩
  case round =>
    obtain ⟨k, hk, rfl, ho, hbr⟩ := hrel
    clear hcell
    by_cases hlt : k < len
    · have hcell : wr.cell? ⟨b, off + k, none⟩ = some (.int .i64 (zs.getD k 0)) := by rw [hbr.cell (by exact hb)]; exact HC.out k hlt
      have hrk := HR.out (zs.getD k 0) (getD_mem (by omega))
      have hfm := hidden (format_any (zs.getD k 0) hrk.1 hrk.2 wr (tabW_below HT.out hbr (Nat.le_refl _)))
      have HO := hidden ho
      have HB := hidden hbr
      clear ho hbr
      go_wp2_with fail
      refine hfm.out.mono ?_
      rintro e w2 ⟨rfl, hb2⟩
      obtain ⟨⟨v, hv⟩, hfz⟩ := shape_cells hlt HO.out hb2
      have HS := hidden (shape_step hlt hz (Nat.le_succ _) HO.out HB.out hb2)
      clear hb2 HO HB hfm hrk hcell
      go_wp2
      go_roundw
      case rel => exact ⟨k + 1, by omega, by go_num, HS.out.1, HS.out.2⟩
      case measure => simp [intOf]; omega
    · obtain rfl : k = len := by omega
      have ho' : wr.ownsRow (w.heap.size + 1) 9 1 (.slice (some ⟨w.heap.size + 1, 0, none⟩) k k) k ((zs.take k).map numStr) := by simpa [partS] using ho
      have HO := hidden ho'
      have HB := hidden hbr
      clear ho ho' hbr HC
      by_cases h1 : k = 1
      · subst h1
        have hrk := HR.out (zs.getD 0 0) (getD_mem (by omega))
        have hil := Lib.itoa_length_le (zs.getD 0 0) hrk.1 hrk.2
        have hgd : (zs.take 1).getD 0 0 = zs.getD 0 0 := by cases zs <;> simp
        obtain ⟨S, hS⟩ : ∃ S : ByteArray, S = ⟨(Lib.itoa (zs.getD 0 0)).toArray⟩ := ⟨_, rfl⟩
        have hSs : S.size ≤ 21 := by rw [hS]; simpa [ByteArray.size_mk'] using hil
        have hcell : wr.cell? ⟨w.heap.size + 1, 0, none⟩ = some (.string S) := by
          rw [HO.out.cellAt 0 (by omega), hS, List.getElem?_map]
          cases zs with
          | nil => simp at hz
          | cons z r => rfl
        have HJ := hidden (text_one S (zs.take 1) (by simp; omega) (by rw [hgd]; exact hS))
        have HB2 := hidden HB.out
        clear hrk hil hgd hS HT HR
        go_wp2
        go_ret
        exact ⟨_, rfl, HJ.out, HB2.out⟩
      · have hne : ((k : Int) == 1) = false := by simp; omega
        have hjn := hidden (join_any _ _ k (zs.take k) (by simp; omega) hlen (fun z hz => HR.out z (List.mem_of_mem_take hz)) wr HO.out)
        have hjl := join_length (zs.take k) (fun z hz => HR.out z (List.mem_of_mem_take hz))
        obtain ⟨J, hJ⟩ : ∃ J : ByteArray, J = ⟨(Lib.join ((zs.take k).map Lib.itoa) [44, 32]).toArray⟩ := ⟨_, rfl⟩
        rw [← hJ] at hjn
        have hJs : J.size ≤ 3014656 := by rw [hJ]; simp only [ByteArray.size_mk', List.size_toArray]; rw [List.length_take] at hjl; omega
        have HJ := hidden (text_other J (zs.take k) (by simp; omega) hJ)
        clear hJ hjl
        go_wp2_with fail
        refine hjn.out.mono ?_
        rintro e w2 ⟨rfl, hb2⟩
        have HB2 := hidden (HB.out.trans (hb2.mono HB.out.size))
        clear hb2 hjn HO HB HT HR
        go_wp2
        go_ret
        exact ⟨_, rfl, HJ.out, HB2.out⟩

set_option maxHeartbeats 400000 in
theorem shape_nil (w : World) :
    Calls Tryd.prog 21 #[.agg #[.string ⟨#[]⟩, .bool false, .slice none 0 0, .int .i64 0]] w fun e w' => ∃ s, e = .returned (.string s) ∧ s.data.toList = shapeText [] ∧ Below w.heap.size w w' := by
  obtain ⟨i0, hi, hz0, hz1, hz2⟩ := info_parts info9
  go_enter Tryd.func21, Tryd.ntmps21
  go_wp2_with (at_make; refine wpList_make_full _ rfl _ _ 45 rfl (w.heap.size + 1) 9 i0 (.string ⟨#[]⟩) 1 Tryd.underlying45 hi hz0 hz1 .i64 .i64 _ _ 0 rfl rfl rfl rfl ?c1 ?c2 ?c3 ?_)
  case c1 => rw [hz2]; omega
  case c2 => unfold maxLen; omega
  case c3 => simp
  intro w1 hown hgrow
  obtain ⟨hbel, hcell⟩ := after_make hgrow (v := .slice none 0 0) (j := 2) (by simp)
  clear hown hgrow
  have HB := hidden hbel
  clear hbel
  go_wp2
  go_loop [13] (fun i => i = .int .i64 0) (fun _ => 0)
  case atStart => rfl
  case round =>
    subst hrel
    go_wp2_with fail
    refine (Tryd.strings_Join_none _ _ _ _).mono ?_
    rintro e w2 ⟨rfl, hw2⟩
    subst hw2
    go_wp2
    go_ret
    exact ⟨_, rfl, rfl, HB.out⟩

set_option maxHeartbeats 400000 in
theorem zzshape_some (b off len cap : Nat) (zs : List Int) (w : World) (hlen : len ≤ 131072) (hz : len ≤ zs.length) (hr : ∀ z ∈ zs, -9223372036854775808 ≤ z ∧ z ≤ 9223372036854775807)
    (hc : ∀ i, i < len → w.cell? ⟨b, off + i, none⟩ = some (.int .i64 (zs.getD i 0))) (hb : b < w.heap.size) (htab : TabW w) :
    Calls Tryd.prog 10 #[.slice (some ⟨b, off, none⟩) len cap] w fun e w' => ∃ s, e = .returned (.string s) ∧ s.data.toList = shapeText (zs.take len) ∧ Below w.heap.size w w' := by
  have H := hidden (shape_some b off len cap zs w hlen hz hr hc hb htab)
  clear hr hc htab
  go_enter Tryd.func10, Tryd.ntmps10
  go_wp2_with fail
  refine H.out.mono ?_
  rintro e w2 ⟨s, rfl, hs, hb2⟩
  have HS := hidden hs
  have HB := hidden hb2
  clear hs hb2
  go_wp2
  go_ret
  exact ⟨s, rfl, HS.out, HB.out⟩

set_option maxHeartbeats 400000 in
theorem zzshape_nil (w : World) :
    Calls Tryd.prog 10 #[.slice none 0 0] w fun e w' => ∃ s, e = .returned (.string s) ∧ s.data.toList = shapeText [] ∧ Below w.heap.size w w' := by
  go_enter Tryd.func10, Tryd.ntmps10
  go_wp2_with fail
  refine (shape_nil w).mono ?_
  rintro e w2 ⟨s, rfl, hs, hb2⟩
  have HS := hidden hs
  have HB := hidden hb2
  clear hs hb2
  go_wp2
  go_ret
  exact ⟨s, rfl, HS.out, HB.out⟩

end Go.Proofs.Qxb6601097aDoor.Rt
