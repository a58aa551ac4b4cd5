import Derived.Test.Qxb6601367aRlB
namespace Go.Proofs.Qxb6601367a.Rl
open Go.RowKit

/-- The list of credentials in memory. -/
structure VS (w : World) (x : Option Addr) (A : Nat → Option Addr) (C : Nat → Nat) (vs : List (List UInt8)) : Prop where
  row : 0 < vs.length → ∃ b o, x = some ⟨b, o, none⟩ ∧ b < w.heap.size ∧ ∀ r, r < vs.length → w.cell? ⟨b, o + r, none⟩ = some (.slice (A r) (vs.getD r []).length (C r))
  each : ∀ r, r < vs.length → BS w (A r) (C r) (vs.getD r [])

theorem VS.below {w w' : World} {x : Option Addr} {A : Nat → Option Addr} {C : Nat → Nat} {vs : List (List UInt8)} (h : VS w x A C vs) (hb : Below w.heap.size w w') : VS w' x A C vs :=
  ⟨fun h0 => let ⟨b, o, h1, h2, h3⟩ := h.row h0; ⟨b, o, h1, Nat.lt_of_lt_of_le h2 hb.size, fun i hi => (hb.cell (by exact h2)).trans (h3 i hi)⟩, fun r hr => (h.each r hr).below hb⟩

def SomeBool (w : World) (e : Ending) (w' : World) : Prop := ∃ q : Bool, e = .returned (.bool q) ∧ w = w'

set_option maxHeartbeats 400000 in
theorem zzBytes_any (x a1 a2 : Option Addr) (cv n1 c1 n2 c2 : Nat) (sep : Int) (A : Nat → Option Addr) (C : Nat → Nat) (vs : List (List UInt8)) (w : World) (h : VS w x A C vs) :
    Calls Try.prog 19 #[.slice x vs.length cv, .slice a1 n1 c1, .slice a2 n2 c2, .int .u8 sep] w (SomeBool w) := by
  have H := hidden h
  clear h
  by_cases hv : vs.length ≤ 1048576
  · go_enter Try.func19, Try.ntmps19
    go_wp2
    go_loop [9, 10] (fun z i => ∃ (k : Nat) (T : Int), k ≤ vs.length ∧ 0 ≤ T ∧ T ≤ 1048576 ∧ z = .int .i64 T ∧ i = .int .i64 k) (fun _ i => vs.length - (intOf i).toNat)
    case atStart => exact ⟨0, _, Nat.zero_le _, by omega, by omega, rfl, rfl⟩
    case round =>
      obtain ⟨k, T, hk, hT0, hT1, rfl, rfl⟩ := hrel
      by_cases hlt : k < vs.length
      · obtain ⟨b, o, rfl, _, hc⟩ := H.out.row (by omega)
        have hcell := hc k hlt
        obtain ⟨n, hn⟩ : ∃ n, n = (vs.getD k []).length := ⟨_, rfl⟩
        rw [← hn] at hcell
        clear hc hn
        by_cases h1 : n ≤ 1048576
        · by_cases h2 : T + n ≤ 1048576
          · go_wp2
            go_round
            case rel => exact ⟨k + 1, _, by omega, by omega, h2, rfl, by go_num⟩
            case measure => simp [intOf]; omega
          · go_wp2
            go_ret
            unfold SomeBool
            exact ⟨false, rfl, rfl⟩
        · go_wp2
          go_ret
          unfold SomeBool
          exact ⟨false, rfl, rfl⟩
      · by_cases g1 : n1 ≤ 1048576
        · by_cases g2 : T + n1 ≤ 1048576
          · by_cases g3 : n2 ≤ 1048576
            · by_cases g4 : T + n1 + n2 ≤ 1048576
              · go_wp2
                go_ret
                unfold SomeBool
                exact ⟨true, rfl, rfl⟩
              · go_wp2
                go_ret
                unfold SomeBool
                exact ⟨false, rfl, rfl⟩
            · go_wp2
              go_ret
              unfold SomeBool
              exact ⟨false, rfl, rfl⟩
          · go_wp2
            go_ret
            unfold SomeBool
            exact ⟨false, rfl, rfl⟩
        · go_wp2
          go_ret
          unfold SomeBool
          exact ⟨false, rfl, rfl⟩
  · go_enter Try.func19, Try.ntmps19
    go_wp2
    go_ret
    unfold SomeBool
    exact ⟨false, rfl, rfl⟩

def SizeP (w : World) (vs : List (List UInt8)) (e : Ending) (w' : World) : Prop :=
  ∃ T : Int, e = .returned (.int .i64 T) ∧ 0 ≤ T ∧ T ≤ 1048577 ∧ (T ≤ 1048576 → 24 * vs.length ≤ 1048576 ∧ ∀ r, r < vs.length → (vs.getD r []).length ≤ 1048576) ∧ w = w'

set_option maxHeartbeats 400000 in
theorem size_any (x : Option Addr) (cv : Nat) (A : Nat → Option Addr) (C : Nat → Nat) (vs : List (List UInt8)) (w : World) (h : VS w x A C vs) :
    Calls Try.prog 10 #[.slice x vs.length cv] w (SizeP w vs) := by
  have H := hidden h
  clear h
  by_cases hv : vs.length ≤ 1048576
  · by_cases hv2 : 24 * vs.length ≤ 1048576
    · go_enter Try.func10, Try.ntmps10
      go_wp2
      go_loop [3, 4] (fun z i => ∃ (k : Nat) (T : Int), k ≤ vs.length ∧ 0 ≤ T ∧ T ≤ 1048576 ∧ z = .int .i64 T ∧ i = .int .i64 k ∧ ∀ r, r < k → (vs.getD r []).length ≤ 1048576) (fun _ i => vs.length - (intOf i).toNat)
      case atStart => exact ⟨0, _, Nat.zero_le _, by omega, by omega, rfl, rfl, fun r h => by omega⟩
      case round =>
        obtain ⟨k, T, hk, hT0, hT1, rfl, rfl, hall⟩ := hrel
        have HA := hidden hall
        clear hall
        by_cases hlt : k < vs.length
        · obtain ⟨b, o, rfl, _, hc⟩ := H.out.row (by omega)
          have hcell := hc k hlt
          obtain ⟨n, hn⟩ : ∃ n, n = (vs.getD k []).length := ⟨_, rfl⟩
          rw [← hn] at hcell
          have HN := hidden hn
          clear hc hn
          by_cases h1 : n ≤ 1048576
          · by_cases h2 : T + n ≤ 1048576
            · go_wp2
              go_round
              case rel => exact ⟨k + 1, _, by omega, by omega, h2, rfl, by go_num, fun r hr => by
                rcases lt_succ_cases hr with h | h
                · exact HA.out r h
                · subst h; rw [← HN.out]; exact h1⟩
              case measure => simp [intOf]; omega
            · go_wp2
              go_ret
              unfold SizeP
              exact ⟨_, rfl, by omega, by omega, fun h => by omega, rfl⟩
          · go_wp2
            go_ret
            unfold SizeP
            exact ⟨_, rfl, by omega, by omega, fun h => by omega, rfl⟩
        · go_wp2
          go_ret
          unfold SizeP
          exact ⟨T, rfl, hT0, by omega, fun _ => ⟨hv2, fun r hr => HA.out r (by omega)⟩, rfl⟩
    · go_enter Try.func10, Try.ntmps10
      go_wp2
      go_ret
      unfold SizeP
      exact ⟨_, rfl, by omega, by omega, fun h => by omega, rfl⟩
  · go_enter Try.func10, Try.ntmps10
    go_wp2
    go_ret
    unfold SizeP
    exact ⟨_, rfl, by omega, by omega, fun h => by omega, rfl⟩

def WellP (w : World) (vs : List (List UInt8)) (e : Ending) (w' : World) : Prop :=
  ∃ q : Bool, e = .returned (.bool q) ∧ (q = true → ∀ r, r < vs.length → vs.getD r [] ≠ []) ∧ Below w.heap.size w w'

set_option maxHeartbeats 400000 in
theorem well_any (x : Option Addr) (cv : Nat) (A : Nat → Option Addr) (C : Nat → Nat) (vs : List (List UInt8)) (w : World) (h : VS w x A C vs) (hv : vs.length ≤ 1048576) :
    Calls Try.prog 11 #[.slice x vs.length cv] w (WellP w vs) := by
  have H := hidden h
  clear h
  go_enter Try.func11, Try.ntmps11
  go_wp2
  go_loopw [3] (fun i wr => ∃ k : Nat, k ≤ vs.length ∧ i = .int .i64 k ∧ (∀ r, r < k → vs.getD r [] ≠ []) ∧ Below w.heap.size w wr) (fun i _ => vs.length - (intOf i).toNat)
  case atStart => exact ⟨0, Nat.zero_le _, rfl, (fun r h => by omega), Below.refl _ _⟩
  case round =>
    obtain ⟨k, hk, rfl, hall, hbr⟩ := hrel
    have HA := hidden hall
    have HB := hidden hbr
    clear hall hbr
    by_cases hlt : k < vs.length
    · obtain ⟨b, o, rfl, _, hc⟩ := (H.out.below HB.out).row (by omega)
      have HC := hidden hc
      have hcell := hc k hlt
      obtain ⟨n, hn⟩ : ∃ n, n = (vs.getD k []).length := ⟨_, rfl⟩
      rw [← hn] at hcell
      have HN := hidden hn
      clear hc hn
      by_cases h0 : n = 0
      · have hn0 : ((n : Int) == 0) = true := by simp [h0]
        clear h0
        go_wp2
        go_ret
        unfold WellP
        exact ⟨false, rfl, (fun h => by cases h), HB.out⟩
      · have hn0 : ((n : Int) == 0) = false := by simp [h0]
        have HN0 := hidden h0
        clear h0
        have next : ∀ q, (∃ k' : Nat, k' ≤ vs.length ∧ Value.int .i64 ((k : Int) + 1) = .int .i64 k' ∧ (∀ r, r < k' → vs.getD r [] ≠ []) ∧ Below w.heap.size w (wr.drewN q)) := fun q =>
          ⟨k + 1, by omega, by go_num, (fun r hr => by
            rcases lt_succ_cases hr with h | h
            · exact HA.out r h
            · subst h; intro e; have := HN.out; rw [e] at this; exact HN0.out this), below_drewN HB.out _⟩
        have NX := hidden next
        clear next
        by_cases hz : 0 < k
        · have hcell2 := HC.out (k - 1) (by omega)
          obtain ⟨n', hn'⟩ : ∃ n', n' = (vs.getD (k - 1) []).length := ⟨_, rfl⟩
          rw [← hn'] at hcell2
          clear hn'
          by_cases hgt : n' < n
          · go_wp2
            go_quiet (fail)
            go_wp2
            go_ret
            unfold WellP
            exact ⟨false, rfl, (fun h => by cases h), below_drewN HB.out _⟩
          · go_wp2
            go_quiet (fail)
            go_wp2
            go_roundw
            case rel => exact NX.out nq
            case measure => simp [intOf]; omega
        · go_wp2
          go_quiet (fail)
          go_wp2
          go_roundw
          case rel => exact NX.out nq
          case measure => simp [intOf]; omega
    · go_wp2
      go_ret
      unfold WellP
      exact ⟨true, rfl, (fun _ r hr => HA.out r (by omega)), HB.out⟩

end Go.Proofs.Qxb6601367a.Rl
