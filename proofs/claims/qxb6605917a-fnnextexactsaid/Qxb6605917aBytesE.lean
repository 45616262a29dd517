import Derived.Test.Qxb6605917aBytes
namespace Go.Proofs.Qxb6605917a
open Go.RowKit
set_option linter.unusedVariables false
set_option linter.unusedSimpArgs false

set_option maxRecDepth 100000 in
set_option maxHeartbeats 1600000 in
theorem bytesE_any (v v' v2 : Value) (n m l : Nat) (t : Int) (S S' S2 : Nat → ByteArray) (D : Nat → Int) (w : World) (h : SIn w v n S) (h' : PIn w v' m S' D) (h2 : SIn w v2 l S2) :
    Calls Try.prog 5 #[v, v', v2, .int .i64 t] w fun e w' => IsBool e ∧ w' = w := by
  obtain ⟨ao, cap, rfl, h1, hc, h3⟩ := h
  obtain ⟨bo, cap', rfl, h1', hc', h3'⟩ := h'
  obtain ⟨co, cap2, rfl, h12, hc2, h32⟩ := h2
  unfold maxLen at hc hc' hc2
  by_cases hn : 1048576 < n
  · go_enter Try.func5, Try.ntmps5
    go_wp2
    go_ret
    exact ⟨isBool_mk _, rfl⟩
  go_enter Try.func5, Try.ntmps5
  go_wp2
  go_loop [9, 10] (fun z i => ∃ (k : Nat) (x : Int), k ≤ n ∧ 0 ≤ x ∧ x ≤ 1048576 ∧ z = .int .i64 x ∧ i = .int .i64 k) (fun _ i => n - (intOf i).toNat)
  case atStart => exact ⟨0, _, Nat.zero_le _, by omega, by omega, rfl, rfl⟩
  case round =>
    obtain ⟨ka, xa, hka, hx0a, hx1a, rfl, rfl⟩ := hrel
    by_cases hlta : ka < n
    · rcases h3 with h0 | ⟨b, off, rfl, hb, hc⟩
      · omega
      have hcx := hc ka hlta
      obtain ⟨s, hs⟩ : ∃ s, S ka = s := ⟨_, rfl⟩
      rw [hs] at hcx
      clear hs hc
      by_cases hs : 1048576 < s.size
      · go_wp2
        go_ret
        exact ⟨isBool_mk _, rfl⟩
      by_cases hs2 : 1048576 < xa + s.size
      · go_wp2
        go_ret
        exact ⟨isBool_mk _, rfl⟩
      · go_wp2
        go_round
        case rel => exact ⟨ka + 1, _, by omega, by omega, by omega, rfl, by go_num⟩
        case measure => simp [intOf]; omega
    · clear h3
      by_cases hmm : 1048576 < m
      · go_wp2
        go_ret
        exact ⟨isBool_mk _, rfl⟩
      by_cases hnm : 1048576 < xa + m
      · go_wp2
        go_ret
        exact ⟨isBool_mk _, rfl⟩
      go_wp2
      go_loop [9, 11] (fun z i => ∃ (k : Nat) (x : Int), k ≤ m ∧ 0 ≤ x ∧ x ≤ 1048576 ∧ z = .int .i64 x ∧ i = .int .i64 k) (fun _ i => m - (intOf i).toNat)
      case atStart => exact ⟨0, _, Nat.zero_le _, by omega, by omega, rfl, rfl⟩
      case round =>
        obtain ⟨kb, xb, hkb, hx0b, hx1b, rfl, rfl⟩ := hrel
        by_cases hltb : kb < m
        · rcases h3' with h0 | ⟨b, off, rfl, hb, hc⟩
          · omega
          have hcx := (hc kb hltb).1
          obtain ⟨s, hs⟩ : ∃ s, S' kb = s := ⟨_, rfl⟩
          rw [hs] at hcx
          clear hs hc
          by_cases hs : 1048576 < s.size
          · go_wp2
            go_ret
            exact ⟨isBool_mk _, rfl⟩
          by_cases hs2 : 1048576 < xb + s.size
          · go_wp2
            go_ret
            exact ⟨isBool_mk _, rfl⟩
          · go_wp2
            go_round
            case rel => exact ⟨kb + 1, _, by omega, by omega, by omega, rfl, by go_num⟩
            case measure => simp [intOf]; omega
        · clear h3'
          by_cases hml : 1048576 < l
          · go_wp2
            go_ret
            exact ⟨isBool_mk _, rfl⟩
          by_cases hnl : 1048576 < xb + l
          · go_wp2
            go_ret
            exact ⟨isBool_mk _, rfl⟩
          go_wp2
          go_loop [9, 12] (fun z i => ∃ (k : Nat) (x : Int), k ≤ l ∧ 0 ≤ x ∧ x ≤ 1048576 ∧ z = .int .i64 x ∧ i = .int .i64 k) (fun _ i => l - (intOf i).toNat)
          case atStart => exact ⟨0, _, Nat.zero_le _, by omega, by omega, rfl, rfl⟩
          case round =>
            obtain ⟨kc, xc, hkc, hx0c, hx1c, rfl, rfl⟩ := hrel
            by_cases hltc : kc < l
            · rcases h32 with h0 | ⟨b, off, rfl, hb, hc⟩
              · omega
              have hcx := hc kc hltc
              obtain ⟨s, hs⟩ : ∃ s, S2 kc = s := ⟨_, rfl⟩
              rw [hs] at hcx
              clear hs hc
              by_cases hs : 1048576 < s.size
              · go_wp2
                go_ret
                exact ⟨isBool_mk _, rfl⟩
              by_cases hs2 : 1048576 < xc + s.size
              · go_wp2
                go_ret
                exact ⟨isBool_mk _, rfl⟩
              · go_wp2
                go_round
                case rel => exact ⟨kc + 1, _, by omega, by omega, by omega, rfl, by go_num⟩
                case measure => simp [intOf]; omega
            · clear h32
              go_wp2
              go_ret
              exact ⟨isBool_mk _, rfl⟩
end Go.Proofs.Qxb6605917a
