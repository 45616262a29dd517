import Derived.Test.Qxb6605917aHelp
namespace Go.Proofs.Qxb6605917a
open Go.RowKit
set_option linter.unusedVariables false
set_option linter.unusedSimpArgs false

def IsBool (e : Ending) : Prop := ∃ b, e = .returned (.bool b)
theorem isBool_mk (b : Bool) : IsBool (.returned (.bool b)) := ⟨b, rfl⟩

set_option maxRecDepth 100000 in
set_option maxHeartbeats 800000 in
theorem bytesR_any (v v' : Value) (n m : Nat) (t : Int) (S S' : Nat → ByteArray) (D : Nat → Int) (w : World) (h : SIn w v n S) (h' : PIn w v' m S' D) :
    Calls Try.prog 21 #[v, v', .int .i64 t] w fun e w' => IsBool e ∧ w' = w := by
  obtain ⟨ao, cap, rfl, h1, h2, h3⟩ := h
  obtain ⟨bo, cap', rfl, h1', h2', h3'⟩ := h'
  unfold maxLen at h2 h2'
  by_cases hn : 1048576 < n
  · go_enter Try.func21, Try.ntmps21
    go_wp2
    go_ret
    exact ⟨isBool_mk _, rfl⟩
  go_enter Try.func21, Try.ntmps21
  go_wp2
  go_loop [7, 8] (fun z i => ∃ (k : Nat) (x : Int), k ≤ n ∧ 0 ≤ x ∧ x ≤ 1048576 ∧ z = .int .i64 x ∧ i = .int .i64 k) (fun _ i => n - (intOf i).toNat)
  case atStart => exact ⟨0, n, Nat.zero_le _, by omega, by omega, rfl, rfl⟩
  case round =>
    obtain ⟨k, x, hk, hx0, hx1, rfl, rfl⟩ := hrel
    by_cases hlt : k < n
    · rcases h3 with h0 | ⟨b, off, rfl, hb, hc⟩
      · omega
      have hcx := hc k hlt
      obtain ⟨s, hs⟩ : ∃ s, S k = s := ⟨_, rfl⟩
      rw [hs] at hcx
      clear hs hc
      by_cases hs : 1048576 < s.size
      · go_wp2
        go_ret
        exact ⟨isBool_mk _, rfl⟩
      by_cases hs2 : 1048576 < x + s.size
      · go_wp2
        go_ret
        exact ⟨isBool_mk _, rfl⟩
      · go_wp2
        go_round
        case rel => exact ⟨k + 1, _, by omega, by omega, by omega, rfl, by go_num⟩
        case measure => simp [intOf]; omega
    · clear h3
      by_cases hm : 1048576 < m
      · go_wp2
        go_ret
        exact ⟨isBool_mk _, rfl⟩
      by_cases hm2 : 1048576 < x + m
      · go_wp2
        go_ret
        exact ⟨isBool_mk _, rfl⟩
      go_wp2
      go_loop [7, 9] (fun z i => ∃ (k : Nat) (x : Int), k ≤ m ∧ 0 ≤ x ∧ x ≤ 1048576 ∧ z = .int .i64 x ∧ i = .int .i64 k) (fun _ i => m - (intOf i).toNat)
      case atStart => exact ⟨0, _, Nat.zero_le _, by omega, by omega, rfl, rfl⟩
      case round =>
        obtain ⟨k', x', hk', hx0', hx1', rfl, rfl⟩ := hrel
        by_cases hlt' : k' < m
        · rcases h3' with h0 | ⟨b, off, rfl, hb, hc⟩
          · omega
          have hcx := (hc k' hlt').1
          obtain ⟨s, hs⟩ : ∃ s, S' k' = s := ⟨_, rfl⟩
          rw [hs] at hcx
          clear hs hc
          by_cases hs : 1048576 < s.size
          · go_wp2
            go_ret
            exact ⟨isBool_mk _, rfl⟩
          by_cases hs2 : 1048576 < x' + s.size
          · go_wp2
            go_ret
            exact ⟨isBool_mk _, rfl⟩
          · go_wp2
            go_round
            case rel => exact ⟨k' + 1, _, by omega, by omega, by omega, rfl, by go_num⟩
            case measure => simp [intOf]; omega
        · go_wp2
          go_ret
          exact ⟨isBool_mk _, rfl⟩
end Go.Proofs.Qxb6605917a
