import Derived.Test.Qxb6601367aRlC
import Derived.Lib.SmallJoins
namespace Go.Proofs.Qxb6601367a.Rl
open Go.RowKit

/-- The call's own memory: the row of places, what is written so far, the boxed list of values. -/
structure Mem (w wr : World) (x : Option Addr) (n cv : Nat) (nx : List Int) (v : Value) (D : List UInt8) : Prop where
  nlen : nx.length = n
  next : wr.ownsRow (w.heap.size + 1) 3 1 (.slice (some ⟨w.heap.size + 1, 0, none⟩) n n) n (nx.map (Value.int .i64))
  out : wr.ownsRow (w.heap.size + 2) 5 1 v D.length (D.map bv)
  hdr : wr.cell? ⟨w.heap.size, 0, none⟩ = some (.slice x n cv)
  bel : Below w.heap.size w wr

section
variable {w wr : World} {x : Option Addr} {n cv : Nat} {nx : List Int} {v : Value} {D : List UInt8}

theorem Mem.size (h : Mem w wr x n cv nx v D) : w.heap.size + 2 ≤ wr.heap.size := (h.next.lt _ rfl).2
theorem Mem.drewN (h : Mem w wr x n cv nx v D) (q : Nat) : Mem w (wr.drewN q) x n cv nx v D := ⟨h.nlen, h.next, h.out, h.hdr, below_drewN h.bel q⟩
theorem Mem.cell (h : Mem w wr x n cv nx v D) (j : Nat) (hj : j < n) : wr.cell? ⟨w.heap.size + 1, j, none⟩ = some (.int .i64 (nx.getD j 0)) := by
  have := h.nlen
  rw [h.next.cellAt j (by omega)]
  simp [List.getElem?_eq_getElem (show j < nx.length by omega)]
theorem Mem.free (h : Mem w wr x n cv nx v D) (j : Nat) : wr.frozen? ⟨w.heap.size + 1, j, none⟩ = false := h.next.frozenAt j
theorem Mem.outNe (h : Mem w wr x n cv nx v D) : v.ownBlock = none ∨ v.ownBlock ≠ some (w.heap.size + 1) := by
  cases hv : v.ownBlock with
  | none => exact .inl rfl
  | some g =>
    have := (h.out.lt g hv).1
    exact .inr (by simp; omega)
theorem Mem.set (h : Mem w wr x n cv nx v D) (k : Nat) (z : Int) : Mem w (wr.setCell ⟨w.heap.size + 1, k, none⟩ (.int .i64 z)) x n cv (nx.set k z) v D := by
  have hs := h.next.stored k (.int .i64 z)
  rw [← List.map_set] at hs
  exact ⟨by simpa using h.nlen, hs.1, h.out.kept hs.2 h.outNe, hs.2.cell h.hdr (by simp), h.bel.setCell (by simp) _⟩
theorem Mem.grow (h : Mem w wr x n cv nx v D) {v' : Value} {w' : World} {E : List UInt8} (ho : w'.ownsRow (w.heap.size + 2) 5 1 v' (D.length + E.length) (D.map bv ++ E.map bv)) (hg : wr.grownBy w' v.ownBlock) :
    Mem w w' x n cv nx v' (D ++ E) := by
  have hne : some (w.heap.size + 1) ≠ v.ownBlock := by
    rcases h.outNe with h1 | h1
    · rw [h1]; simp
    · exact Ne.symm h1
  refine ⟨h.nlen, h.next.kept hg (.inr (by simpa [Value.ownBlock] using hne)), by rw [List.length_append, List.map_append]; exact ho, hg.cell h.hdr ?_, h.bel.grown hg h.bel.size (fun k hk => ?_)⟩
  · cases hv : v.ownBlock with
    | none => simp
    | some g => have := (h.out.lt g hv).1; simp; omega
  · have := (h.out.lt k hk).1; omega
end

theorem set_at {nx : List Int} {k j n : Nat} {z : Int} (hn : nx.length = n) (hk : k < n) : (nx.set k z).getD j 0 = if j = k then z else nx.getD j 0 := by
  by_cases h : j = k
  · subst h
    rw [if_pos rfl]
    simp [hn, hk]
  · rw [if_neg h]
    simp only [List.getD_eq_getElem?_getD, List.getElem?_set]
    rw [if_neg (Ne.symm h)]

set_option maxHeartbeats 400000 in
theorem cut_none (x ba : Option Addr) (cv tl bc : Nat) (w : World) :
    Calls Try.prog 29 #[.agg #[.slice x 0 cv], .slice ba tl bc, .bool true] w fun e w' => e = .returned (.tuple #[.slice ba tl bc, .slice none 0 0, .int .i64 0]) ∧ Below w.heap.size w w' := by
  go_enter Try.func29, Try.ntmps29
  go_wp2
  go_ret3
  exact ⟨rfl, (Below.refl _ _).alloc (Nat.le_refl _) _⟩

/-- What holds at the start of the search. -/
theorem after_make {w w1 : World} {o : Obj} {v : Value} {j : Nat} (h : (w.alloc o).grownBy w1 none) (hc : (w.alloc o).cell? ⟨w.heap.size, j, none⟩ = some v) : Below w.heap.size w w1 ∧ w1.cell? ⟨w.heap.size, j, none⟩ = some v :=
  ⟨((Below.refl _ w).alloc (Nat.le_refl _) o).grown h (by simp) (by intro k h; cases h), h.cell hc (by simp)⟩

/-- What holds at the start of a round of the scan: the text is done up to i. -/
structure Outer (w wr : World) (x : Option Addr) (cv : Nat) (vs : List (List UInt8)) (t : List UInt8) (i cnt : Nat) (nx : List Int) (v : Value) (D : List UInt8) : Prop where
  mem : Mem w wr x vs.length cv nx v D
  nxs : ∀ j, j < vs.length → NX t (vs.getD j []) i (nx.getD j 0)
  il : i ≤ t.length
  cl : cnt ≤ i
  dl : D.length ≤ 10 * i
  sc : D ++ scan vs (t.drop i) = scan vs t

/-- .. and in the search for the first value: the places of the first k are found. -/
structure Inner (w wi : World) (x : Option Addr) (cv : Nat) (vs : List (List UInt8)) (t : List UInt8) (i k : Nat) (f : Int) (nx : List Int) (v : Value) (D : List UInt8) : Prop where
  mem : Mem w wi x vs.length cv nx v D
  exs : ∀ j, j < k → EX t (vs.getD j []) i (nx.getD j 0)
  nxs : ∀ j, j < vs.length → NX t (vs.getD j []) i (nx.getD j 0)
  fst : Fst nx k f

theorem set_same {nx : List Int} {k n : Nat} (hn : nx.length = n) (hk : k < n) : nx.set k (nx.getD k 0) = nx := by
  apply List.ext_getElem?
  intro j
  rw [List.getElem?_set]
  by_cases h : k = j
  · subst h
    simp [hn, hk]
  · rw [if_neg h]

theorem fst_set {nx : List Int} {k n : Nat} {f z : Int} (hn : nx.length = n) (hk : k < n) (h : Fst nx k f) : Fst (nx.set k z) k f := by
  have e : ∀ j, j < k → (nx.set k z).getD j 0 = nx.getD j 0 := fun j hj => by rw [set_at hn hk, if_neg (by omega)]
  rcases h with ⟨h1, h2⟩ | ⟨j0, h1, h2, h3, h4⟩
  · exact .inl ⟨h1, fun j hj => by rw [e j hj]; exact h2 j hj⟩
  · refine .inr ⟨j0, h1, h2, by rw [e j0 h2]; exact h3, fun j hj => ?_⟩
    rw [e j hj, e j0 h2]; exact h4 j hj

theorem Inner.next {w wi wc : World} {x : Option Addr} {cv : Nat} {vs : List (List UInt8)} {t : List UInt8} {i k : Nat} {f f' z' : Int} {nx : List Int} {v : Value} {D : List UInt8} (h : Inner w wi x cv vs t i k f nx v D) (hk : k < vs.length)
    (hex : EX t (vs.getD k []) i z') (hm : Mem w wc x vs.length cv (nx.set k z') v D) (hf : Fst (nx.set k z') (k + 1) f') (q : Nat) : Inner w (wc.drewN q) x cv vs t i (k + 1) f' (nx.set k z') v D where
  mem := hm.drewN q
  exs := fun j hj => by
    rw [set_at h.mem.nlen hk]
    by_cases e : j = k
    · rw [if_pos e, e]; exact hex
    · rw [if_neg e]; exact h.exs j (by omega)
  nxs := fun j hj => by
    rw [set_at h.mem.nlen hk]
    by_cases e : j = k
    · rw [if_pos e, e]; exact .inl hex
    · rw [if_neg e]; exact h.nxs j hj
  fst := hf

theorem Outer.next {w wr w7 : World} {x : Option Addr} {cv : Nat} {vs : List (List UInt8)} {t u : List UInt8} {i p cnt : Nat} {nx nx2 : List Int} {v v7 : Value} {D D6 : List UInt8} (h : Outer w wr x cv vs t i cnt nx v D)
    (hnx : ∀ j, j < vs.length → NX t (vs.getD j []) i (nx2.getD j 0)) (hsc : scan vs (t.drop i) = (t.drop i).take (p - i) ++ (mark ++ scan vs (t.drop (p + u.length)))) (hD : D6 = D ++ (t.drop i).take (p - i))
    (hm : Mem w w7 x vs.length cv nx2 v7 (D6 ++ mark)) (hip : i ≤ p) (hpl : p + u.length ≤ t.length) (hu : 1 ≤ u.length) (q : Nat) :
    Outer w (w7.drewN q) x cv vs t (p + u.length) (cnt + 1) nx2 v7 (D6 ++ mark) where
  mem := hm.drewN q
  nxs := fun j hj => nx_mono (hnx j hj) (by omega)
  il := hpl
  cl := by have := h.cl; omega
  dl := by
    have := h.dl
    have hE : ((t.drop i).take (p - i)).length = p - i := by simp; omega
    rw [hD, List.length_append, List.length_append, hE]
    have : mark.length = 10 := rfl
    omega
  sc := by rw [← h.sc, hsc, hD]; simp

def CutP (w : World) (vs : List (List UInt8)) (t : List UInt8) (e : Ending) (w' : World) : Prop :=
  ∃ (a : Option Addr) (c : Nat) (r : Value) (m : Int), e = .returned (.tuple #[.slice a (scan vs t).length c, r, .int .i64 m]) ∧ BS w' a c (scan vs t) ∧ Below w.heap.size w w'

set_option maxRecDepth 20000 in
set_option maxHeartbeats 1000000 in
theorem cut_some (x ba : Option Addr) (cv bc : Nat) (A : Nat → Option Addr) (C : Nat → Nat) (vs : List (List UInt8)) (t : List UInt8) (mx : Int) (w : World) (hvs : VS w x A C vs) (hbs : BS w ba bc t)
    (hn0 : 0 < vs.length) (hvl : vs.length ≤ 1048576) (htl : t.length ≤ 1048577) (hne : ∀ v ∈ vs, v ≠ []) (hlen : ∀ r, r < vs.length → (vs.getD r []).length ≤ 1048576) (hmx : w.cell? ⟨0, 0, none⟩ = some (.int .i64 mx)) :
    Calls Try.prog 29 #[.agg #[.slice x vs.length cv], .slice ba t.length bc, .bool true] w (CutP w vs t) := by
  obtain ⟨b, o, rfl, hbw, hrow⟩ := hvs.row hn0
  obtain ⟨i0, hi, hz0, hz1, hz2⟩ := info_parts info3
  have h00 : 0 < w.heap.size := World.block_lt_of_cell? w _ hmx
  have HVS := hidden hvs
  have HBS := hidden hbs
  have HNE := hidden hne
  have HLEN := hidden hlen
  have HMX := hidden hmx
  have HROW := hidden hrow
  have hnz : ((vs.length : Int) == 0) = false := by rw [beq_eq_false_iff_ne]; omega
  clear hvs hbs hne hlen hmx hrow
  go_enter Try.func29, Try.ntmps29
  go_wp2_with (at_make; refine wpList_make_full _ rfl _ _ 52 rfl (w.heap.size + 1) 3 i0 (.int .i64 0) 1 Try.underlying52 hi hz0 hz1 .i64 .i64 _ _ vs.length rfl rfl rfl rfl ?c1 ?c2 ?c3 ?_)
  case c1 => rw [hz2]; omega
  case c2 => unfold maxLen; omega
  case c3 => simp
  intro w1 hown hgrow
  obtain ⟨hbel, hcell⟩ := after_make hgrow (v := .slice (some ⟨b, o, none⟩) vs.length cv) (j := 0) (by simp)
  have hm1 : Mem w w1 (some ⟨b, o, none⟩) vs.length cv (List.replicate vs.length 0) (.slice none 0 0) [] := by
    refine ⟨by simp, ?_, World.ownsRow_nil _ _ _ _, hcell, hbel⟩
    rw [List.map_replicate, ← toList_madeCells_one]
    simpa [Value.cells] using hown
  have HM := hidden hm1
  clear hm1 hown hgrow hbel
  go_wp2
  go_loopw [45] (fun i wr => ∃ (k : Nat) (nx : List Int), k ≤ vs.length ∧ i = .int .i64 k ∧ (∀ j, j < k → EX t (vs.getD j []) 0 (nx.getD j 0)) ∧ Mem w wr (some ⟨b, o, none⟩) vs.length cv nx (.slice none 0 0) []) (fun i _ => vs.length - (intOf i).toNat)
  case atStart => exact ⟨0, _, Nat.zero_le _, rfl, (fun j h => by omega), HM.out⟩
  case round =>
    obtain ⟨k, nx, hk, rfl, hex, hmem⟩ := hrel
    have HEX := hidden hex
    have HME := hidden hmem
    clear hex hmem hcell HM
    by_cases hlt : k < vs.length
    · have hck : wr.cell? ⟨b, o + k, none⟩ = some (.slice (A k) (vs.getD k []).length (C k)) := by rw [HME.out.bel.cell (by exact hbw)]; exact HROW.out k hlt
      obtain ⟨u, hu⟩ : ∃ u, u = vs.getD k [] := ⟨_, rfl⟩
      have hun : u ≠ [] := by rw [hu]; exact HNE.out _ (getD_mem hlt)
      have HIX := hidden (index_any ba (A k) t.length bc u.length (C k) t u mx wr (HBS.out.below HME.out.bel) (by rw [hu]; exact (HVS.out.each k hlt).below HME.out.bel) rfl rfl (by omega) hun (by rw [hu]; exact HLEN.out k hlt) (by rw [HME.out.bel.cell (by exact h00)]; exact HMX.out))
      rw [← hu] at hck
      have HU := hidden hu
      have HUN := hidden hun
      clear hu hun
      go_wp2_with fail
      refine HIX.out.mono ?_
      rintro e w2 ⟨rfl, q, rfl⟩
      have hcl := HME.out.cell k hlt
      have hfr := HME.out.free k
      obtain ⟨z, hz⟩ : ∃ z, z = Lib.index t u := ⟨_, rfl⟩
      rw [← hz]
      have HS := hidden ((HME.out.drewN q).set k z)
      have HZ := hidden hz
      clear hz hck HIX
      go_wp2
      go_roundw
      case rel => exact ⟨k + 1, nx.set k z, by omega, by go_num, (fun j hj => by
        rw [set_at HME.out.nlen hlt]
        rcases lt_succ_cases hj with h | h
        · rw [if_neg (by omega)]; exact HEX.out j h
        · subst h; rw [if_pos rfl, HZ.out, HU.out]; rw [HU.out] at HUN; exact ex_index0 HUN.out), HS.out⟩
      case measure => simp [intOf]; omega
    · obtain rfl : k = vs.length := by omega
      have hstart : Outer w wr (some ⟨b, o, none⟩) cv vs t 0 0 nx (.slice none 0 0) [] :=
        ⟨HME.out, fun j hj => .inl (HEX.out j hj), Nat.zero_le _, Nat.zero_le _, by simp, by simp⟩
      have HST := hidden hstart
      clear hstart HME HEX hlt hk
      go_wp2
      go_loopg [8, 13, 14] t.length (fun g c v iv wr => ∃ (i cnt : Nat) (nx : List Int) (D : List UInt8), g = t.length - i ∧ c = .int .i64 cnt ∧ iv = .int .i64 i ∧ Outer w wr (some ⟨b, o, none⟩) cv vs t i cnt nx v D)
      case atStart => exact ⟨0, 0, nx, [], by omega, rfl, rfl, HST.out⟩
      case round =>
        clear HST
        obtain ⟨i, cnt, nx, D, hgk, rfl, rfl, hou⟩ := hrel
        have hil := hou.il
        have hcl := hou.cl
        have hhd := hou.mem.hdr
        have HOU := hidden hou
        have HGK := hidden hgk
        clear hou hgk
        go_wp2
        go_loopg [15, 60] vs.length (fun g f jv wi => ∃ (k : Nat) (fv : Int) (nx : List Int), g = vs.length - k ∧ k ≤ vs.length ∧ f = .int .i64 fv ∧ jv = .int .i64 k ∧ Inner w wi (some ⟨b, o, none⟩) cv vs t i k fv nx u13 D)
        case atStart => exact ⟨0, -1, nx, by omega, Nat.zero_le _, rfl, rfl, HOU.out.mem, (fun j h => by omega), HOU.out.nxs, fst_zero nx⟩
        case round =>
          obtain ⟨k, fv, nx2, hgi, hk, rfl, rfl, hin⟩ := hrel
          have HIN := hidden hin
          have HGI := hidden hgi
          clear hin hgi hhd
          by_cases hlt : k < vs.length
          · have hck : wr.cell? ⟨b, o + k, none⟩ = some (.slice (A k) (vs.getD k []).length (C k)) := by rw [HIN.out.mem.bel.cell (by exact hbw)]; exact HROW.out k hlt
            obtain ⟨u, hu⟩ : ∃ u, u = vs.getD k [] := ⟨_, rfl⟩
            obtain ⟨z, hz⟩ : ∃ z, z = nx2.getD k 0 := ⟨_, rfl⟩
            have hcz := HIN.out.mem.cell k hlt
            have hfz := HIN.out.mem.free k
            rw [← hz] at hcz
            rw [← hu] at hck
            have hnx := HIN.out.nxs k hlt
            rw [← hz, ← hu] at hnx
            have hun : u ≠ [] := by rw [hu]; exact HNE.out _ (getD_mem hlt)
            have hzb := nx_ge hnx
            have hzt := nx_le hun hil hnx
            have HNX := hidden hnx
            have HU := hidden hu
            have HUN := hidden hun
            have HZ := hidden hz
            clear hnx hu hun hz
            go_upto_region 18 with fail
            go_cut [77] (fun s w' => ∃ B : Bool, s = .bool B ∧ (B = true ↔ 0 ≤ z ∧ z < (i : Int)) ∧ w' = wr)
            case first =>
              by_cases h1 : 0 ≤ z
              · by_cases h2 : z < (i : Int)
                · go_wp2
                  go_meet
                  case rel => exact ⟨true, rfl, ⟨fun _ => ⟨h1, h2⟩, fun _ => rfl⟩, rfl⟩
                · go_wp2
                  go_meet
                  case rel => exact ⟨false, rfl, ⟨(fun h => by cases h), fun h => by omega⟩, rfl⟩
              · go_wp2
                go_meet
                case rel => exact ⟨false, rfl, ⟨(fun h => by cases h), fun h => by omega⟩, rfl⟩
            case rest =>
              obtain ⟨B, rfl, hB, hwc⟩ := hcut
              subst hwc
              have HBB := hidden hB
              clear hB
              go_upto_if 77 with fail
              go_cut [] (fun w' => ∃ z', EX t u i z' ∧ Mem w w' (some ⟨b, o, none⟩) vs.length cv (nx2.set k z') u13 D)
              case first =>
                cases B with
                | true =>
                  obtain ⟨PA, hPA, hsl⟩ := slice_run_l (HBS.out.below HIN.out.mem.bel) i hil
                  have HIX := hidden (index_any PA (A k) (t.length - i) (bc - i) u.length (C k) (t.drop i) u mx wc hPA (by rw [HU.out]; exact (HVS.out.each k hlt).below HIN.out.mem.bel) (by simp) rfl (by simp; omega) HUN.out (by rw [HU.out]; exact HLEN.out k hlt) (by rw [HIN.out.mem.bel.cell (by exact h00)]; exact HMX.out))
                  clear hPA
                  go_wp2_with fail
                  refine HIX.out.mono ?_
                  rintro e w5 ⟨rfl, q, rfl⟩
                  obtain ⟨r, hr⟩ : ∃ r, r = Lib.index (t.drop i) u := ⟨_, rfl⟩
                  have hri := ex_index (t := t) HUN.out i
                  have hrb := Lib.index_le (t.drop i) u
                  rw [← hr] at hri hrb
                  rw [← hr]
                  rw [List.length_drop] at hrb
                  have HRI := hidden hri
                  have HM5 := hidden (HIN.out.mem.drewN q)
                  clear hr hri HIX hsl
                  by_cases hr0 : r < 0
                  · go_wp2
                    go_meet
                    case rel => exact ⟨-1, HRI.out.1 hr0, HM5.out.set k (-1)⟩
                  · have hr1 : 0 ≤ r := by omega
                    go_wp2
                    go_meet
                    case rel => exact ⟨(i : Int) + r, HRI.out.2 hr1, HM5.out.set k _⟩
                | false =>
                  have HF := hidden (nx_fresh HNX.out (fun h => by have := HBB.out.2 h; cases this))
                  go_wp2
                  go_meet
                  case rel => exact ⟨z, HF.out, by rw [HZ.out, set_same HIN.out.mem.nlen hlt]; exact HIN.out.mem⟩
              case rest =>
                obtain ⟨z', hex', hmem'⟩ := hcut
                have hnk : (nx2.set k z').getD k 0 = z' := by rw [set_at HIN.out.mem.nlen hlt, if_pos rfl]
                have hck' := hmem'.cell k hlt
                rw [hnk] at hck'
                have hfs := fst_set (z := z') HIN.out.mem.nlen hlt HIN.out.fst
                rw [HU.out] at hex'
                have hz'b := nx_ge (.inl hex')
                have HNK := hidden hnk
                have HEX' := hidden hex'
                have HFS := hidden hfs
                have HM' := hidden hmem'
                have hff := fst_form hfs
                clear hnk hex' hfs hmem' hck hcz hfz HBB HNX HUN HZ
                by_cases hz1 : 0 ≤ z'
                · rcases hff with hf1 | ⟨j0, hf1, hf2⟩
                  · subst hf1
                    have HN := hidden (HIN.out.next hlt HEX'.out HM'.out (fst_none HFS.out (by rw [HNK.out]; exact hz1)))
                    go_wp2
                    go_quiet (fail)
                    go_wp2
                    go_roundg (vs.length - (k + 1))
                    case measure => have := HGI.out; omega
                    case rel => exact ⟨k + 1, k, _, rfl, by omega, rfl, by go_num, HN.out _⟩
                  · subst hf1
                    obtain ⟨p0, hp0⟩ : ∃ p0, p0 = (nx2.set k z').getD j0 0 := ⟨_, rfl⟩
                    have hcj := HM'.out.cell j0 (by omega)
                    rw [← hp0] at hcj
                    have HP0 := hidden hp0
                    clear hp0
                    have hd1 : decide ((0 : Int) ≤ z') = true := decide_eq_true hz1
                    have hd2 : decide ((j0 : Int) < 0) = false := decide_eq_false (by omega)
                    by_cases hl0 : z' < p0
                    · have HN := hidden (HIN.out.next hlt HEX'.out HM'.out (fst_less HFS.out (by rw [HNK.out]; exact hz1) (by rw [HNK.out, ← HP0.out]; exact hl0)))
                      go_wp2
                      go_quiet (fail)
                      go_wp2
                      go_roundg (vs.length - (k + 1))
                      case measure => have := HGI.out; omega
                      case rel => exact ⟨k + 1, k, _, rfl, by omega, rfl, by go_num, HN.out _⟩
                    · have HN := hidden (HIN.out.next hlt HEX'.out HM'.out (fst_more HFS.out (by rw [HNK.out, ← HP0.out]; exact hl0)))
                      go_wp2
                      go_quiet (fail)
                      go_wp2
                      go_roundg (vs.length - (k + 1))
                      case measure => have := HGI.out; omega
                      case rel => exact ⟨k + 1, j0, _, rfl, by omega, rfl, by go_num, HN.out _⟩
                · have HN := hidden (HIN.out.next hlt HEX'.out HM'.out (fst_miss HFS.out (by rw [HNK.out]; omega)))
                  have hd1 : decide ((0 : Int) ≤ z') = false := decide_eq_false hz1
                  clear hff
                  go_wp2
                  go_quiet (fail)
                  go_wp2
                  go_roundg (vs.length - (k + 1))
                  case measure => have := HGI.out; omega
                  case rel => exact ⟨k + 1, fv, _, rfl, by omega, rfl, by go_num, HN.out _⟩
          · obtain rfl : k = vs.length := by omega
            rcases fst_form HIN.out.fst with hf1 | ⟨j0, hf1, hj0⟩
            · subst hf1
              have hsc : D ++ (t.drop i).take (t.length - i) = scan vs t := by
                rw [List.take_of_length_le (by simp), ← HOU.out.sc, scan_done HNE.out HIN.out.exs HIN.out.fst]
              obtain ⟨PA, hPA, hsl⟩ := slice_run_lh (HBS.out.below HIN.out.mem.bel) i t.length hil (Nat.le_refl _)
              have hdl := HOU.out.dl
              have HPA := hidden hPA
              have HSC := hidden hsc
              have HME := hidden HIN.out.mem
              have hmax : max (t.length : Int) (i : Int) = t.length := by omega
              obtain ⟨PB, hPB, hsb⟩ := slice_run_l (HBS.out.below HIN.out.mem.bel) t.length (Nat.le_refl _)
              clear hPA hsc HIN HGI HOU HGK hlt hPB
              go_wp2_with (at_builtin; refine wpList_append_bs rfl (.tmp 153) (.tmp 157) rfl (w.heap.size + 2) _ D.length (D.map bv) rfl HME.out.out _ _ _ ((t.drop i).take (t.length - i)) rfl ?d0 HPA.out ?d1 ?d2 ?_)
              case d0 => simp
              case d1 => omega
              case d2 => exact HME.out.size
              intro v6 w6 hown6 hgrow6
              have hm6 := HME.out.grow (E := (t.drop i).take (t.length - i)) (by rw [show ((t.drop i).take (t.length - i)).length = t.length - i by simp]; simpa [List.map_take, List.map_drop] using hown6) hgrow6
              rw [HSC.out] at hm6
              obtain ⟨a, c, hv6, hbs6⟩ := bs_of_own hm6.out
              have HB6 := hidden hm6.bel
              have HBS6 := hidden hbs6
              clear hown6 hgrow6 hm6 hbs6 hsl hmax HME HPA HSC
              rw [hv6]
              clear hv6
              go_wp2
              go_quiet (fail)
              go_wp2
              go_ret3
              unfold CutP
              exact ⟨a, c, _, _, rfl, HBS6.out.below (Joins.below_draws _ _ _), below_drewN HB6.out _⟩
            · subst hf1
              obtain ⟨p, hp, hip, hpl, hpt, hsc⟩ := scan_step HNE.out HIN.out.exs HIN.out.fst
              obtain ⟨u, hu⟩ : ∃ u, u = vs.getD j0 [] := ⟨_, rfl⟩
              have hun : u ≠ [] := by rw [hu]; exact HNE.out _ (getD_mem hj0)
              have hu0 : 1 ≤ u.length := by
                have : u.length ≠ 0 := by simpa using hun
                omega
              have hcp := HIN.out.mem.cell j0 hj0
              rw [hp] at hcp
              rw [← hu] at hpl hsc
              have hd2 : decide ((j0 : Int) < 0) = false := decide_eq_false (by omega)
              have hdl := HOU.out.dl
              obtain ⟨PA, hPA, hsl⟩ := slice_run_lh (HBS.out.below HIN.out.mem.bel) i p hip (by omega)
              have HPA := hidden hPA
              have HSC := hidden hsc
              have HU := hidden hu
              obtain ⟨i5, hi5, hz50, hz51, hz52⟩ := info_parts info5
              have HP := hidden hp
              clear hPA hsc hu hun hp hlt
              go_wp2_with (at_builtin; refine wpList_append_bs rfl (.tmp 126) (.tmp 133) rfl (w.heap.size + 2) _ D.length (D.map bv) rfl HIN.out.mem.out _ _ _ ((t.drop i).take (p - i)) rfl ?d0 HPA.out ?d1 ?d2 ?_)
              case d0 => simp; omega
              case d1 => omega
              case d2 => exact HIN.out.mem.size
              intro v6 w6 hown6 hgrow6
              have hE : ((t.drop i).take (p - i)).length = p - i := by simp; omega
              have hm6 := HIN.out.mem.grow (E := (t.drop i).take (p - i)) (by rw [hE]; simpa [List.map_take, List.map_drop] using hown6) hgrow6
              have hD6 : (D ++ (t.drop i).take (p - i)).length ≤ 10 * p := by rw [List.length_append, hE]; omega
              obtain ⟨D6, hD6e⟩ : ∃ D6, D6 = D ++ (t.drop i).take (p - i) := ⟨_, rfl⟩
              rw [← hD6e] at hm6 hD6
              have HM6 := hidden hm6
              have HD6 := hidden hD6e
              clear hown6 hgrow6 hm6 hsl hcp hE hD6e
              go_wp2_with (at_builtin; refine Lib.wpList_append_own_string _ rfl (.tmp 135) (.const (.string ⟨#[91, 114, 101, 100, 97, 99, 116, 101, 100, 93]⟩)) 23 9 rfl (w.heap.size + 2) 5 i5 Try.underlying23 Try.underlying9 hi5 hz50 hz51 hz52 _ _ _ rfl HM6.out.out ⟨#[91, 114, 101, 100, 97, 99, 116, 101, 100, 93]⟩ rfl ?e1 ?e2 ?e3 ?_)
              case e1 => unfold maxLen; simp only [ByteArray.size_mk', List.size_toArray, List.length_cons, List.length_nil]; omega
              case e2 => simp only [ByteArray.size_mk', List.size_toArray, List.length_cons, List.length_nil]; omega
              case e3 => exact HM6.out.size
              intro v7 w7 hown7 hgrow7 _
              have hm7 := HM6.out.grow (E := mark) (by exact hown7) hgrow7
              have hcp7 := hm7.cell j0 hj0
              rw [HP.out] at hcp7
              have hhd7 := hm7.hdr
              have hck7 : w7.cell? ⟨b, o + j0, none⟩ = some (.slice (A j0) u.length (C j0)) := by rw [hm7.bel.cell (by exact hbw), HU.out]; exact HROW.out j0 hj0
              have HN := hidden (Outer.next HOU.out HIN.out.nxs HSC.out HD6.out hm7 hip hpl hu0)
              clear hown7 hgrow7 hm7
              go_wp2
              go_quiet (fail)
              go_wp2
              go_roundg (t.length - (p + u.length))
              case measure => have := HGK.out; omega
              case rel => exact ⟨p + u.length, cnt + 1, nx2, D6 ++ mark, rfl, by go_num, by go_num, HN.out _⟩

end Go.Proofs.Qxb6601367a.Rl
