/- Statement 2: the row's step and the row. The walk stands in Qxb6601367aRlF. -/
import Derived.Test.Qxb6601367aRlF
import Derived.ProofKit
import Derived.OpenShut
import Derived.ChangeOld
import Derived.Below
import Derived.HandedShaped
import Derived.Deep.Matrix
namespace Go.Proofs.Qxb6601367a.Rl
open Go.ChangeShapes Go.WideShapes Go.ChangeAt Go.RowKit
set_option linter.unusedVariables false

theorem own : ownKnob Try.prog.godebug = none := by kernel_rfl
theorem laidOut : laidOutB Try.prog = true := by kernel_rfl

def toByte (z : Int) : UInt8 := z.toNat.toUInt8
theorem toByte_nat {z : Int} (h : (Lit.int .u8 z).wf = true) : ((toByte z).toNat : Int) = z := by
  have hb := bounds_u8 h
  unfold toByte
  rw [show z.toNat.toUInt8 = UInt8.ofNat z.toNat from rfl, UInt8.toNat_ofNat_of_lt' (by simp [UInt8.size]; omega)]
  omega

/-- A row of bytes as the reading gives it. -/
theorem bs_of_row {W : World} {a : Addr} {len cap : Nat} {zs : List Int} (hl : len ≤ cap) (hz : zs.length = cap) (hw : ∀ n ∈ zs, (Lit.int .u8 n).wf = true) (hc : ∀ i, i < zs.length → W.cell? (a.add i) = some (.int .u8 (zs.getD i 0))) :
    BS W (some a) cap ((zs.take len).map toByte) := by
  have hlen : ((zs.take len).map toByte).length = len := by simp; omega
  refine ⟨by omega, (fun h => by cases h), fun h0 => ?_⟩
  obtain ⟨b, off, spot⟩ := a
  have hspot : spot = none := by simpa [Addr.add] using World.cell?_spot (hc 0 (by omega))
  subst hspot
  refine ⟨b, off, rfl, ?_, fun i hi => ?_⟩
  · have := World.block_lt_of_cell? W _ (hc 0 (by omega))
    rw [addr_add] at this; exact this
  · rw [hlen] at hi
    have hi' : i < zs.length := by omega
    have := hc i hi'
    rw [addr_add] at this
    rw [this]
    have hn := toByte_nat (hw zs[i] (List.getElem_mem _))
    simp [hi, List.getElem?_eq_getElem hi', hn]

theorem bs_of_ints {H : Type} {enc : TypeId × Value → H} {W : World} {a0 : Option Addr} {len cap : Nat} {d : DataW H} {p : List MemPlace} (h : DataW.Trod enc Try.prog W 0 (fun _ => true) true 23 (.slice a0 len cap) d p) :
    ∃ s : List UInt8, s.length = len ∧ BS W a0 cap s := by
  obtain ⟨fuel, hf⟩ := h
  rcases open_ints Try.underlying23 Try.underlying5 (by kernel_rfl) hf with ⟨hcs, _⟩ | ⟨x, l, c, zs, hcs, _, hl, hm, hz, _, hcell, hwz⟩
  · simp [Value.cells] at hcs
    obtain ⟨rfl, rfl, rfl⟩ := hcs
    exact ⟨[], rfl, ⟨Nat.le_refl _, fun _ => rfl, fun h => by simp at h⟩⟩
  · simp [Value.cells] at hcs
    obtain ⟨rfl, rfl, rfl⟩ := hcs
    have hz' : zs.length = cap := by simpa using hz
    exact ⟨(zs.take len).map toByte, by simp; omega, bs_of_row hl hz' hwz hcell⟩

theorem vs_of_rows {H : Type} {enc : TypeId × Value → H} {W : World} {a0 : Option Addr} {len cap : Nat} {d : DataW H} {p : List MemPlace} (h : DataW.Trod enc Try.prog W 0 (fun _ => true) true 22 (.slice a0 len cap) d p) :
    ∃ (A : Nat → Option Addr) (C : Nat → Nat) (vs : List (List UInt8)), vs.length = len ∧ VS W a0 A C vs := by
  obtain ⟨fuel, hf⟩ := h
  rcases Deep.open_int_rows Try.underlying22 Try.underlying23 Try.underlying5 (by kernel_rfl) (by kernel_rfl) hf with ⟨hcs, _⟩ | ⟨a, l, c, A, L, C, Z, hcs, _, hl, hm, _, hr⟩
  · simp [Value.cells] at hcs
    obtain ⟨rfl, rfl, rfl⟩ := hcs
    exact ⟨fun _ => none, fun _ => 0, [], rfl, ⟨fun h => by simp at h, fun r h => by simp at h⟩⟩
  · simp [Value.cells] at hcs
    obtain ⟨rfl, rfl, rfl⟩ := hcs
    have hlen : ((List.range len).map fun r => ((Z r).take (L r)).map toByte).length = len := by simp
    have hget : ∀ r, r < len → ((List.range len).map fun r => ((Z r).take (L r)).map toByte).getD r [] = ((Z r).take (L r)).map toByte := fun r hr => by simp [hr]
    have hll : ∀ r, r < len → (((Z r).take (L r)).map toByte).length = L r := fun r hr' => by
      obtain ⟨_, h1, _, h2, _⟩ := hr r (by omega)
      simp; omega
    refine ⟨A, C, (List.range len).map fun r => ((Z r).take (L r)).map toByte, hlen, fun h0 => ?_, fun r hr' => ?_⟩
    · rw [hlen] at h0
      obtain ⟨b, off, spot⟩ := a
      have hspot : spot = none := by simpa [Addr.add] using World.cell?_spot (hr 0 (by omega)).1
      subst hspot
      refine ⟨b, off, rfl, ?_, fun r hr' => ?_⟩
      · have := World.block_lt_of_cell? W _ (hr 0 (by omega)).1
        rw [addr_add] at this; exact this
      · rw [hlen] at hr'
        have := (hr r (by omega)).1
        rw [addr_add] at this
        rw [this, hget r hr', hll r hr']
    · rw [hlen] at hr'
      rw [hget r hr']
      obtain ⟨h1, h2, h3, h4, h5, h6, h7⟩ := hr r (by omega)
      cases hA : A r with
      | none =>
        have hc0 := h6 hA
        have hl0 : L r = 0 := by omega
        rw [hc0]
        refine ⟨by simp [hl0], fun _ => rfl, fun h => by simp [hl0] at h⟩
      | some a' => exact bs_of_row h2 h4 h5 (fun i hi => (h7 a' hA).2 i (by omega))

set_option maxRecDepth 100000 in
theorem lifted (os : Os) (started : os.Started) (H : Type) (enc : TypeId × Value → H) :
    ReturnsInHanded {} Try.checked os 6 .any (Rows.fnRedactIsLocalAroundASeparatorSpec.pre6 enc Try.prog Try.f6 Rows.fnRedactIsLocalAroundASeparatorRow.domain false) (Rows.fnRedactIsLocalAroundASeparatorSpec.post enc Try.prog Try.f6 false true false false) := by
  refine returnsInHanded_of_change_shaped (C := Try.checked) own started (by kernel_rfl) Try.func6
    (ChangeSpec.witness6 (enc := enc) (C := Try.checked) false ⟨#[], #[.slice none 0 0, .slice none 0 0, .slice none 0 0, .int .u8 0], []⟩ 8 (by kernel_rfl) (by kernel_rfl) (by kernel_rfl) (by kernel_rfl)) ?_
  intro W base args ds gs before hval0 hW hcnd _ hsh _
  have hval : ∀ (j : Nat) t v, Try.f6.params[j]? = some t → args[j]? = some v → Value.okWide Try.prog W .any base t v := hval0
  have hW' := hW
  obtain ⟨p, q, hA0, hV, rfl, hfz, hnd⟩ := hW
  have hA : DataW.TrodAll enc Try.prog W 0 (fun _ => true) true Try.f6.params.toList args.toList ds p := hA0
  rw [Try.params6] at hA hval
  obtain ⟨v0, vs0, d0, ds0, p0, q0, hargs, rfl, rfl, h0, r0⟩ := trodAll_cons hA
  obtain ⟨v1, vs1, d1, ds1, p1, q1, rfl, rfl, rfl, h1, r1⟩ := trodAll_cons r0
  obtain ⟨v2, vs2, d2, ds2, p2, q2, rfl, rfl, rfl, h2, r2⟩ := trodAll_cons r1
  obtain ⟨v3, vs3, d3, ds3, p3, q3, rfl, rfl, rfl, h3, r3⟩ := trodAll_cons r2
  obtain ⟨rfl, rfl, rfl⟩ := trodAll_nil r3
  obtain rfl : args = #[v0, v1, v2, v3] := by cases args; simp_all
  obtain ⟨rfl, rfl⟩ := trodVars_none hV
  obtain ⟨a0, len0, cap0, rfl⟩ := okWide_slice Try.underlying22 (hval 0 22 v0 rfl rfl)
  obtain ⟨a1, len1, cap1, rfl⟩ := okWide_slice Try.underlying23 (hval 1 23 v1 rfl rfl)
  obtain ⟨a2, len2, cap2, rfl⟩ := okWide_slice Try.underlying23 (hval 2 23 v2 rfl rfl)
  obtain ⟨z, rfl, rfl, rfl, wz⟩ := open_int Try.underlying5 (hval 3 5 v3 rfl rfl) h3
  have lt0 : ∀ x ∈ p0, x.block < W.heap.size := by obtain ⟨m, hm⟩ := h0; exact DataW.trod_lt m _ _ _ hm
  have lt1 : ∀ x ∈ p1, x.block < W.heap.size := by obtain ⟨m, hm⟩ := h1; exact DataW.trod_lt m _ _ _ hm
  have lt2 : ∀ x ∈ p2, x.block < W.heap.size := by obtain ⟨m, hm⟩ := h2; exact DataW.trod_lt m _ _ _ hm
  obtain ⟨A, C, vs, rfl, hvs⟩ := vs_of_rows h0
  obtain ⟨ta, rfl, hba⟩ := bs_of_ints h1
  obtain ⟨tb, rfl, hbb⟩ := bs_of_ints h2
  obtain ⟨mx, hmx⟩ := Try.laysM185.s1_3 W hsh
  clear hA0 hval0
  have hwalk := law_any a0 a1 a2 cap0 cap1 cap2 (toByte z) A C vs ta tb mx W hvs hba hbb hmx
  rw [toByte_nat wz] at hwalk
  refine hwalk.mono fun e W' ⟨he, bel⟩ => ?_
  subst he
  exact ⟨_, rfl, _, _, _, [], _, [], hW', trodAll_mk1 (shut_bool Try.underlying4 _), (trodAll_cons_mk (Below.trod laidOut (by kernel_rfl) (of_decide_eq_true (by kernel_rfl)) h0 bel lt0) (trodAll_cons_mk (Below.trod laidOut (by kernel_rfl) (of_decide_eq_true (by kernel_rfl)) h1 bel lt1) (trodAll_cons_mk (Below.trod laidOut (by kernel_rfl) (of_decide_eq_true (by kernel_rfl)) h2 bel lt2) (trodAll_cons_mk (shut_int Try.underlying5 wz) trodAll_mk0)))), rfl, bel.frame _, fun h => by cases h⟩

theorem over : Rows.fnRedactIsLocalAroundASeparatorRow.holds Try.pinned (OpenSpec.ofChange Rows.fnRedactIsLocalAroundASeparatorSpec) :=
  OpenClaim.holds_of_wide 6 Try.f6 rfl rfl rfl rfl rfl rfl rfl ⟨rfl, rfl, rfl, rfl, rfl⟩ rfl rfl rfl rfl rfl (by kernel_rfl) Try.func6 (by kernel_rfl)
    (of_decide_eq_true (by kernel_rfl)) (by unfold Func.isWrapper; first | (rw [if_pos (by decide +kernel)]; kernel_rfl) | (rw [if_neg (by decide +kernel)]; exact ⟨rfl, rfl⟩))
    (fun os started H enc _ => lifted os started H enc)

theorem proved : Rows.FnRedactIsLocalAroundASeparatorSaid := over
end Go.Proofs.Qxb6601367a.Rl
