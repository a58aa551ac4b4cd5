import Derived.Test.Qxb6601367aRows
import Derived.Test.Qxb6601367aShelf
import Derived.Test.Qxb6601367aRlPlain2
import Derived.WalkKit
import Derived.WalkSpells
import Derived.WalkLawsBesides
import Derived.Deep.QuietTactic
import Derived.BigQuiet
import Derived.Deep.LoopGhost
import Derived.Deep.DeepCutAuto
import Derived.Laws.AppendOwnNone
import Derived.Lib.AppendStr
namespace Go.Proofs.Qxb6601367a.Rl
open Go.RowKit

theorem hidden {p : Prop} (h : p) : Hid p := h
theorem info5 : (Try.prog.info? 5).map (fun i => (i.zero, i.size, i.bytes)) = some (some (.int .u8 0), 1, 1) := by kernel_rfl
theorem info3 : (Try.prog.info? 3).map (fun i => (i.zero, i.size, i.bytes)) = some (some (.int .i64 0), 1, 8) := by kernel_rfl

/-- A byte as a cell. -/
def bv (b : UInt8) : Value := .int .u8 (b.toNat : Int)

/-- A slice of bytes that reads as s: its address, its capacity. -/
structure BS (w : World) (a : Option Addr) (c : Nat) (s : List UInt8) : Prop where
  cap : s.length ≤ c
  nil : a = none → c = 0
  cell : 0 < s.length → ∃ b o, a = some ⟨b, o, none⟩ ∧ b < w.heap.size ∧ ∀ i, i < s.length → w.cell? ⟨b, o + i, none⟩ = some (.int .u8 ((s.getD i 0).toNat : Int))

theorem BS.below {w w' : World} {a : Option Addr} {c : Nat} {s : List UInt8} (h : BS w a c s) (hb : Below w.heap.size w w') : BS w' a c s :=
  ⟨h.cap, h.nil, fun h0 => let ⟨b, o, h1, h2, h3⟩ := h.cell h0; ⟨b, o, h1, Nat.lt_of_lt_of_le h2 hb.size, fun i hi => (hb.cell (by exact h2)).trans (h3 i hi)⟩⟩

theorem BS.add {w : World} {x : Addr} {c : Nat} {s : List UInt8} (h : BS w (some x) c s) (i : Nat) (hi : i < s.length) : w.cell? (x.add i) = some (.int .u8 ((s.getD i 0).toNat : Int)) := by
  obtain ⟨b, o, h1, _, h3⟩ := h.cell (by omega)
  obtain rfl := Option.some.inj h1
  have : (⟨b, o, none⟩ : Addr).add i = ⟨b, o + i, none⟩ := by unfold Addr.add; split <;> simp_all
  rw [this]; exact h3 i hi

theorem addr_add (b o i : Nat) : (⟨b, o, none⟩ : Addr).add i = ⟨b, o + i, none⟩ := by unfold Addr.add; split <;> simp_all

/-- 's[i:p]' of such a slice. -/
theorem BS.part {w : World} {a : Option Addr} {c : Nat} {s : List UInt8} (h : BS w a c s) (i p : Nat) (hi : i ≤ p) (hp : p ≤ s.length) :
    BS w (if c = i then a else a.map (·.add i)) (c - i) ((s.drop i).take (p - i)) := by
  have hcap := h.cap
  have hl : ((s.drop i).take (p - i)).length = p - i := by simp; omega
  refine ⟨by omega, fun hn => ?_, fun h0 => ?_⟩
  · by_cases hc : c = i
    · omega
    · rw [if_neg hc] at hn
      have := h.nil (by cases a with | none => rfl | some x => simp at hn)
      omega
  · rw [hl] at h0
    obtain ⟨b, o, rfl, h2, h3⟩ := h.cell (by omega)
    refine ⟨b, o + i, ?_, h2, fun j hj => ?_⟩
    · rw [if_neg (by omega), Option.map_some, addr_add]
    · rw [hl] at hj
      rw [Nat.add_assoc, h3 (i + j) (by omega)]
      simp [List.getElem?_drop, hj]

/-- 's[i:]', 's[i:p]': the run of the cut, the address under a name. -/
theorem slice_run_l {w : World} {a : Option Addr} {c : Nat} {s : List UInt8} (h : BS w a c s) (i : Nat) (hi : i ≤ s.length) :
    ∃ pa, BS w pa (c - i) (s.drop i) ∧ ∀ w' : World, (Instr.slice 23 (.slice a s.length c) (some (.int .i64 (i : Int))) none none).run Try.prog w' = .ok (.slice pa (s.length - i) (c - i)) w' := by
  refine ⟨_, by have := h.part i s.length hi (Nat.le_refl _); rw [List.take_of_length_le (by simp)] at this; exact this, fun w' => ?_⟩
  simp [go_sem, hi]
theorem slice_run_lh {w : World} {a : Option Addr} {c : Nat} {s : List UInt8} (h : BS w a c s) (i p : Nat) (hi : i ≤ p) (hp : p ≤ s.length) :
    ∃ pa, BS w pa (c - i) ((s.drop i).take (p - i)) ∧ ∀ w' : World, (Instr.slice 23 (.slice a s.length c) (some (.int .i64 (i : Int))) (some (.int .i64 (p : Int))) none).run Try.prog w' = .ok (.slice pa (p - i) (c - i)) w' := by
  have hc := h.cap
  refine ⟨_, h.part i p hi hp, fun w' => ?_⟩
  simp [go_sem, hi, show p ≤ c by omega]

theorem bytes_of_toNat (s : List UInt8) : Lib.bytesOf (s.map fun b => (b.toNat : Int)) = s := by
  simp [Lib.bytesOf, Function.comp_def]
theorem getD_nums (s : List UInt8) (i : Nat) : (s.map fun b => (b.toNat : Int)).getD i 0 = ((s.getD i 0).toNat : Int) := by
  by_cases h : i < s.length
  · simp [List.getElem?_eq_getElem h]
  · simp [List.getElem?_eq_none (Nat.le_of_not_lt h)]

/-- bytes.Index, of slices told so; the separator not empty. -/
theorem index_any (a1 a2 : Option Addr) (n1 c1 n2 c2 : Nat) (s v : List UInt8) (m : Int) (w : World) (h1 : BS w a1 c1 s) (h2 : BS w a2 c2 v) (hn1 : s.length = n1) (hn2 : v.length = n2) (hs : s.length < 4294967281) (hv : v ≠ []) (hvl : v.length ≤ 1048576)
    (hm : w.cell? ⟨0, 0, none⟩ = some (.int .i64 m)) :
    Calls Try.prog 33 #[.slice a1 n1 c1, .slice a2 n2 c2] w fun e w' => e = .returned (.int .i64 (Lib.index s v)) ∧ ∃ q, w' = w.drewN q := by
  subst hn1 hn2
  have hv0 : 0 < v.length := by have : v.length ≠ 0 := by simpa using hv
                                omega
  obtain ⟨b2, o2, rfl, _, hc2⟩ := h2.cell hv0
  cases a1 with
  | none =>
    have hc := h1.nil rfl
    have hs0 : s.length = 0 := by have := h1.cap; omega
    obtain rfl : s = [] := List.eq_nil_of_length_eq_zero hs0
    have hix : Lib.index [] v = -1 := by
      cases v with
      | nil => exact absurd rfl hv
      | cons c r => rfl
    rw [hix]
    subst hc
    refine (Any.bytes_Index_nil Try.lays185 (some ⟨b2, o2, none⟩) v.length c2 w (by omega) (fun _ => ⟨b2, o2, _, rfl, hc2 0 hv0⟩)).mono ?_
    rintro e w' ⟨he, hw⟩
    rw [if_neg (by omega)] at he
    exact ⟨he, 0, hw⟩
  | some x =>
    have := Any.bytes_Index_at Try.lays185 x ⟨b2, o2, none⟩ s.length c1 v.length c2 (s.map fun b => (b.toNat : Int)) (v.map fun b => (b.toNat : Int)) m w (by simp) (by simp)
      (fun x hx => by obtain ⟨b, _, rfl⟩ := List.mem_map.1 hx; have := b.toNat_lt; omega) (fun x hx => by obtain ⟨b, _, rfl⟩ := List.mem_map.1 hx; have := b.toNat_lt; omega)
      (fun i hi => by rw [getD_nums]; exact h1.add i hi) (fun i hi => by rw [getD_nums, addr_add]; exact hc2 i hi) h1.cap hs (by omega) hm
    rw [bytes_of_toNat, bytes_of_toNat] at this
    exact this

/-- What is owned reads so. -/
theorem bs_of_own {w : World} {base n : Nat} {v : Value} {s : List UInt8} (h : w.ownsRow base 5 1 v n (s.map bv)) : ∃ a c, v = .slice a s.length c ∧ BS w a c s := by
  have hl : s.length = n := by have := h.1; simpa using this
  subst hl
  rcases h.2 with ⟨hv, h0⟩ | ⟨g, c, cur, hv, _, hg, hnc, _, _, _⟩
  · obtain rfl : s = [] := List.eq_nil_of_length_eq_zero h0
    exact ⟨none, 0, hv, ⟨Nat.le_refl _, fun _ => rfl, fun h => by simp at h⟩⟩
  · subst hv
    refine ⟨some ⟨g, 0, none⟩, c, rfl, ⟨hnc, (fun h => by cases h), fun h0 => ⟨g, 0, rfl, (h.lt g rfl).2, fun i hi => ?_⟩⟩⟩
    rw [Nat.zero_add, h.cellAt i (by omega)]
    simp [List.getElem?_eq_getElem hi, bv]

/-- 'append(out, xs...)' onto a slice of the call's own, xs a slice of bytes wherever it lies. -/
theorem wpList_append_bs {w : World} {ops : Array Oper} {rest : List Oper} {o : Oper} {a : Act} {Q : Exit → Act → World → Prop} (hgd : o.guard = none) (s x : Operand)
    (ho : o.op = .call { callee := .builtin .append, args := #[s, x], argTypes := #[23, 23] })
    (base : Nat) (v : Value) (n : Nat) (xs : List Value) (hs : a.eval s = v) (hown : w.ownsRow base 5 1 v n xs)
    (ao : Option Addr) (m c : Nat) (t : List UInt8) (hx : a.eval x = .slice ao m c) (hm : t.length = m) (ht : BS w ao c t)
    (h63 : n + m ≤ 140737488355328) (hbase : base ≤ w.heap.size)
    (h : ∀ v' w', w'.ownsRow base 5 1 v' (n + m) (xs ++ t.map bv) → w.grownBy w' v.ownBlock → wpList Try.prog ops Q rest (a.put o.dst v') w') : wpList Try.prog ops Q (o :: rest) a w := by
  obtain ⟨i0, hi, hz0, hz1, hz2⟩ := info_parts info5
  subst hm
  cases ao with
  | none =>
    have hc := ht.nil rfl
    have h0 : t.length = 0 := by have := ht.cap; omega
    obtain rfl : t = [] := List.eq_nil_of_length_eq_zero h0
    subst hc
    refine wpList_append_own_none hgd s x 23 ho base 5 i0 1 Try.underlying23 hi v n xs hs hown hx ?_
    exact h v w (by simpa using hown) (World.grownBy.refl _ _)
  | some ad =>
    refine wpList_append_own w hgd s x 23 ho base 5 i0 (.int .u8 0) 1 1 Try.underlying23 hi hz0 hz1 hz2 rfl (by decide) v n xs hs hown ad t.length c (t.map bv) hx (by simp) (fun j u hj => ?_) (fun u hu => ?_) (by unfold maxLen; omega) (by omega) hbase (fun v' w' h1 h2 _ => h v' w' h1 h2)
    · have hjl : j < t.length := by have := (List.getElem?_eq_some_iff.1 hj).1; simpa using this
      rw [ht.add j hjl]
      simp only [List.getElem?_map, List.getElem?_eq_getElem hjl, Option.map_some, Option.some.injEq] at hj
      simp [List.getElem?_eq_getElem hjl, ← hj, bv]
    · obtain ⟨b, _, rfl⟩ := List.mem_map.1 hu
      rfl

end Go.Proofs.Qxb6601367a.Rl
