import Derived.Test.Qxb6605919aBase
namespace Go.Proofs.Qxb6605919a
open Go.RowKit
set_option linter.unusedVariables false
set_option linter.unusedSimpArgs false

/-- The two rows joined. -/
def J (n : Nat) (Y U : Nat → Int) (p : Nat) : Int := if p < n then Y p else U (p - n)
def jewB (n : Nat) (Y : Nat → Int) (l : Nat) (U : Nat → Int) (m : Nat) (Z : Nat → Int) : Bool := decide (m ≤ n + l ∧ ∀ i, i < m → J n Y U (n + l - m + i) = Z i)

set_option maxHeartbeats 800000 in
theorem join_any (a b c : Value) (n l m : Nat) (Y U Z : Nat → Int) (w : World) (ha : BRow w a n Y) (hb : BRow w b l U) (hc : BRow w c m Z) (hn : n ≤ 1048576) (hl : l ≤ 1048576) (hm : m ≤ 1048576) :
    Calls Try.prog 6 #[a, b, c] w fun e w' => e = .returned (.bool (jewB n Y l U m Z)) ∧ w' = w := by
  obtain ⟨ao, ca, rfl, a1, a2, a3⟩ := id ha
  obtain ⟨bo, cb, rfl, b1, b2, b3⟩ := id hb
  obtain ⟨co, cc, rfl, c1, c2, c3⟩ := id hc
  unfold maxLen at a2 b2 c2
  clear ha hb hc
  by_cases hlt : n + l < m
  · have hd : decide ((n : Int) + (l : Int) < (m : Int)) = true := by simp; omega
    have HJ : Hid (jewB n Y l U m Z = false) := by show _ = _; unfold jewB; simp; omega
    clear a3 b3 c3
    go_enter Try.func6, Try.ntmps6
    go_wp2
    go_ret
    exact ⟨ret_bool HJ.out.symm, rfl⟩
  · obtain ⟨s, hs⟩ : ∃ s, n + l - m = s := ⟨_, rfl⟩
    have hsi : (n : Int) + (l : Int) - (m : Int) = (s : Int) := by omega
    have hsb : s + m ≤ n + l ∧ n + l ≤ s + m := by omega
    have HJ : Hid (jewB n Y l U m Z = decide (∀ i, i < m → J n Y U (s + i) = Z i)) := by
      show _ = _
      unfold jewB
      rw [hs, decide_eq_decide]
      exact ⟨fun h => h.2, fun h => ⟨by omega, h⟩⟩
    clear hs
    have hd : decide ((n : Int) + (l : Int) < (m : Int)) = false := by simp; omega
    go_enter Try.func6, Try.ntmps6
    go_wp2
    go_loop [9] (fun i => ∃ k : Nat, k ≤ m ∧ i = .int .i64 k ∧ Hid (∀ i, i < k → J n Y U (s + i) = Z i)) (fun i => m - (intOf i).toNat)
    case atStart => exact ⟨0, Nat.zero_le _, rfl, fun i hi => by omega⟩
    case round =>
      obtain ⟨k, hk, rfl, HK⟩ := hrel
      by_cases hkm : k < m
      · rcases c3 with ⟨_, h0, _⟩ | ⟨z, zo, rfl, hz, hzc⟩
        · omega
        have kz := hzc k hkm
        obtain ⟨q, hq⟩ : ∃ q, Z k = q := ⟨_, rfl⟩
        rw [hq] at kz
        by_cases hp : s + k < n
        · rcases a3 with ⟨_, h0, _⟩ | ⟨x, xo, rfl, hx, hxc⟩
          · omega
          have kx := hxc (s + k) hp
          obtain ⟨y, hy⟩ : ∃ y, Y (s + k) = y := ⟨_, rfl⟩
          rw [hy] at kx
          have HJk : Hid (J n Y U (s + k) = y ∧ Z k = q) := ⟨by unfold J; rw [if_pos hp, hy], hq⟩
          have hpi : (s : Int) + (k : Int) < (n : Int) := by omega
          clear hq hy hzc hxc b3
          by_cases hyq : y = q
          · subst hyq
            go_wp2
            go_round
            case rel => exact ⟨k + 1, by omega, by go_num, fun i hi => (by by_cases e : i = k; (rw [e, HJk.out.1, HJk.out.2]); exact HK.out i (by omega))⟩
            case measure => simp [intOf]; omega
          · have hne : (y != q) = true := by simpa using hyq
            go_wp2
            go_ret
            exact ⟨ret_bool (by rw [HJ.out]; symm; rw [decide_eq_false_iff_not]; exact fun h => hyq (by rw [← HJk.out.1, ← HJk.out.2]; exact h k hkm)), rfl⟩
        · rcases b3 with ⟨_, h0, _⟩ | ⟨x, xo, rfl, hx, hxc⟩
          · omega
          obtain ⟨r, hr⟩ : ∃ r, s + k - n = r := ⟨_, rfl⟩
          have hri : (s : Int) + (k : Int) - (n : Int) = (r : Int) := by omega
          have hrl : r < l := by omega
          have kx := hxc r hrl
          obtain ⟨y, hy⟩ : ∃ y, U r = y := ⟨_, rfl⟩
          rw [hy] at kx
          have HJk : Hid (J n Y U (s + k) = y ∧ Z k = q) := ⟨by unfold J; rw [if_neg hp, hr, hy], hq⟩
          have hpi : (n : Int) ≤ (s : Int) + (k : Int) := by omega
          clear hq hy hzc hxc a3 hr
          by_cases hyq : y = q
          · subst hyq
            go_wp2
            go_round
            case rel => exact ⟨k + 1, by omega, by go_num, fun i hi => (by by_cases e : i = k; (rw [e, HJk.out.1, HJk.out.2]); exact HK.out i (by omega))⟩
            case measure => simp [intOf]; omega
          · have hne : (y != q) = true := by simpa using hyq
            go_wp2
            go_ret
            exact ⟨ret_bool (by rw [HJ.out]; symm; rw [decide_eq_false_iff_not]; exact fun h => hyq (by rw [← HJk.out.1, ← HJk.out.2]; exact h k hkm)), rfl⟩
      · have hkk : m = k := by omega
        subst hkk
        go_wp2
        go_ret
        exact ⟨ret_bool (by rw [HJ.out]; symm; rw [decide_eq_true_iff]; exact HK.out), rfl⟩
end Go.Proofs.Qxb6605919a
