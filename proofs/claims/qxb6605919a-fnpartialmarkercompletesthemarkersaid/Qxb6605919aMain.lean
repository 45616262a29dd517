import Derived.Test.Qxb6605919aJoin
import Derived.Deep.DeepCutAuto
import Derived.Deep.LoopGhost
namespace Go.Proofs.Qxb6605919a
open Go.RowKit
set_option linter.unusedVariables false
set_option linter.unusedSimpArgs false

theorem Try.info5 : (Try.prog.info? 5).map (fun i => (i.zero, i.size, i.bytes)) = some (some (.int .u8 0), 1, 1) := by kernel_rfl
theorem Try.size5 : (Try.prog.info? 5).map (·.size) = some 1 := by kernel_rfl

/-- A slice of bytes that came in: an empty one may begin anywhere. -/
def BIn (w : World) (v : Value) (n : Nat) (Z : Nat → Int) : Prop :=
  ∃ ao cap, v = .slice ao n cap ∧ n ≤ cap ∧ cap ≤ maxLen ∧ (ao = none → n = 0 ∧ cap = 0) ∧ (n = 0 ∨ ∃ b off, ao = some ⟨b, off, none⟩ ∧ b < w.heap.size ∧ ∀ i, i < n → w.cell? ⟨b, off + i, none⟩ = some (.int .u8 (Z i)))
theorem BIn.below {w w' : World} {v : Value} {n : Nat} {Z : Nat → Int} (h : BIn w v n Z) (hb : Below w.heap.size w w') : BIn w' v n Z := by
  obtain ⟨ao, cap, rfl, h1, h2, h0, h3⟩ := h
  refine ⟨ao, cap, rfl, h1, h2, h0, ?_⟩
  rcases h3 with h3 | ⟨b, off, rfl, hlt, hc⟩
  · exact .inl h3
  · exact .inr ⟨b, off, rfl, Nat.lt_of_lt_of_le hlt hb.size, fun i hi => (hb.cell (p := ⟨b, off + i, none⟩) hlt).trans (hc i hi)⟩
theorem BRow.below {w w' : World} {v : Value} {n : Nat} {Z : Nat → Int} (h : BRow w v n Z) (hb : Below w.heap.size w w') : BRow w' v n Z := by
  obtain ⟨ao, cap, rfl, h1, h2, h3⟩ := h
  refine ⟨ao, cap, rfl, h1, h2, ?_⟩
  rcases h3 with h3 | ⟨b, off, rfl, hlt, hc⟩
  · exact .inl h3
  · exact .inr ⟨b, off, rfl, Nat.lt_of_lt_of_le hlt hb.size, fun i hi => (hb.cell (p := ⟨b, off + i, none⟩) hlt).trans (hc i hi)⟩

theorem copy_made (w : World) (x : Option Addr) (n cap : Nat) (Z : Nat → Int) (h : BIn w (.slice x n cap) n Z) (hn : n ≤ 1048576) :
    ∃ W, (∀ ty, (Builtin.copy_ #[22, 22] ty #[.slice (some ⟨w.heap.size, 0, none⟩) n n, .slice x n cap]).run Try.prog (w.alloc (.cells (madeCells #[.int .u8 0] n) 5)) = .ok (goInt n) W) ∧
      BRow W (.slice (some ⟨w.heap.size, 0, none⟩) n n) n Z ∧ Below w.heap.size w W ∧ W.heap.size = w.heap.size + 1 := by
  have hb0 : Below w.heap.size w (w.alloc (.cells (madeCells #[.int .u8 0] n) 5)) := (Below.refl _ _).alloc (Nat.le_refl _) _
  obtain ⟨ao, cap', hv, h1, h2, h0, h3⟩ := h.below hb0
  simp only [Value.slice.injEq] at hv
  obtain ⟨rfl, _, rfl⟩ := hv
  have hg : (w.alloc (.cells (madeCells #[.int .u8 0] n) 5)).heap[w.heap.size]? = some (.cells (madeCells #[.int .u8 0] n) 5 (0, 0)) := heap_alloc_new _ _
  by_cases hn0 : n = 0
  · subst hn0
    refine ⟨w.alloc (.cells (madeCells #[.int .u8 0] 0) 5), fun ty => run_copy_none _ 22 22 ty 5 _ _ 0 0 0 cap Try.underlying22 Try.size5 rfl, ⟨_, 0, rfl, Nat.le_refl _, by unfold maxLen; omega, .inr ⟨_, 0, rfl, by simp, fun i hi => by omega⟩⟩, hb0, by simp⟩
  · rcases h3 with h3 | ⟨b, off, rfl, hlt, hc⟩
    · omega
    have hl : ((List.range n).map fun i => Value.int .u8 (Z i)).length = n := by simp
    have hs := size_madeCells #[Value.int .u8 0] n
    have hat : ∀ j v, ((List.range n).map fun i => Value.int .u8 (Z i))[j]? = some v → j < n ∧ v = .int .u8 (Z j) := fun j v hj => by
      have hjn : j < n := by have := (List.getElem?_eq_some_iff.1 hj).1; simpa using this
      simp [hjn] at hj
      exact ⟨hjn, hj.symm⟩
    have hrun := fun ty => run_copy_row (P := Try.prog) (w.alloc (.cells (madeCells #[.int .u8 0] n) 5)) 22 22 ty 5 w.heap.size 0 n n ⟨b, off, none⟩ n cap (madeCells #[.int .u8 0] n) 5 ((List.range n).map fun i => .int .u8 (Z i)) Try.underlying22 Try.size5 hg (by rw [hl]; exact (Nat.min_self n).symm)
      (fun j v hj => by
        obtain ⟨hjn, rfl⟩ := hat j v hj
        have hplain : (⟨b, off, none⟩ : Addr).add j = ⟨b, off + j, none⟩ := by unfold Addr.add; split <;> simp_all
        rw [hplain]
        exact hc j hjn) (by rw [hl, hs]; omega) (fun v hv => by simp at hv; obtain ⟨i, _, rfl⟩ := hv; rfl)
    rw [hl] at hrun
    refine ⟨_, hrun, ⟨_, n, rfl, Nat.le_refl _, by unfold maxLen; omega, .inr ⟨_, 0, rfl, by simp [World.setRow], fun i hi => ?_⟩⟩, ?_, by simp [World.setRow]⟩
    · rw [cell_of_row _ _ _ _ 5 (0, 0) (setRow_heap _ _ _ _ 5 _ hg)]
      simp only [List.take_zero, List.nil_append, Nat.zero_add, List.getElem?_toArray]
      rw [List.getElem?_append_left (by simpa using hi)]
      simp [hi]
    · exact ⟨rfl, rfl, rfl, by simp [World.setRow], fun k hk => (setRow_other _ _ _ _ (by omega)).trans (hb0.block k hk)⟩

set_option maxHeartbeats 400000 in
theorem bytes_any (a0 : Option Addr) (n cap0 : Nat) (a1 : Option Addr) (m cap1 : Nat) (w : World) (hn : n ≤ 9223372036854775807) (hm : m ≤ 9223372036854775807) :
    Calls Try.prog 4 #[.slice a0 n cap0, .slice a1 m cap1] w fun e w' => IsBool e ∧ w' = w := by
  by_cases h1 : 1048576 < n
  · go_enter Try.func4, Try.ntmps4
    go_wp2
    go_ret
    exact ⟨isBool_mk _, rfl⟩
  by_cases h2 : 1048576 < m
  · go_enter Try.func4, Try.ntmps4
    go_wp2
    go_ret
    exact ⟨isBool_mk _, rfl⟩
  by_cases h3 : 1048576 < n + m
  · go_enter Try.func4, Try.ntmps4
    go_wp2
    go_ret
    exact ⟨isBool_mk _, rfl⟩
  · go_enter Try.func4, Try.ntmps4
    go_wp2
    go_ret
    exact ⟨isBool_mk _, rfl⟩

set_option maxHeartbeats 400000 in
theorem zzpm_any (a b : Value) (n m : Nat) (Y Z : Nat → Int) (w : World) (ha : BRow w a n Y) (hb : BRow w b m Z) (hY : Byte n Y) (hZ : Byte m Z) :
    Calls Try.prog 5 #[a, b] w fun e w' => IsPM n Y m Z e ∧ w' = w := by
  have h := partialMarker_any a b n m Y Z w ha hb hY hZ
  have H := (show Hid _ from h)
  clear h ha hb hY hZ
  go_enter Try.func5, Try.ntmps5
  go_wp2_with fail
  refine Calls.mono H.out ?_
  rintro e w' ⟨⟨r, rfl, hr⟩, rfl⟩
  go_wp2
  go_ret
  exact ⟨⟨r, rfl, hr⟩, rfl⟩
theorem jew_suf (n : Nat) (Y : Nat → Int) (m : Nat) (Z : Nat → Int) (k : Nat) (hk : k ≤ m) : jewB n Y (m - k) (fun i => Z (k + i)) m Z = sufB n Y k Z := by
  unfold jewB sufB
  rw [decide_eq_decide]
  constructor
  · rintro ⟨h1, h2⟩
    refine ⟨by omega, fun i hi => ?_⟩
    have := h2 i (by omega)
    unfold J at this
    rw [show n + (m - k) - m + i = n - k + i from by omega, if_pos (by omega)] at this
    exact this
  · rintro ⟨h1, h2⟩
    refine ⟨by omega, fun i hi => ?_⟩
    unfold J
    rw [show n + (m - k) - m + i = n - k + i from by omega]
    by_cases hik : i < k
    · rw [if_pos (by omega)]; exact h2 i hik
    · rw [if_neg (by omega)]
      show Z (k + (n - k + i - n)) = Z i
      rw [show k + (n - k + i - n) = i from by omega]

theorem pm_yes {n : Nat} {Y : Nat → Int} {m : Nat} {Z : Nat → Int} {r : Nat} (h : PM n Y m Z r) : sufB n Y r Z = true := by
  rcases h.2.2.1 with h1 | h1
  · subst h1; unfold sufB; simp
  · exact h1
theorem pm_no {n : Nat} {Y : Nat → Int} {m : Nat} {Z : Nat → Int} {r k : Nat} (h : PM n Y m Z r) (h1 : r < k) (h2 : k < m) : sufB n Y k Z = false := by
  by_cases hkn : k ≤ n
  · exact h.2.2.2 k h1 hkn h2
  · unfold sufB; simp; omega

set_option maxRecDepth 100000 in
set_option maxHeartbeats 1600000 in
theorem law_any (a0 : Option Addr) (n cap0 : Nat) (a1 : Option Addr) (m cap1 : Nat) (Y Z : Nat → Int) (w : World) (h0 : BIn w (.slice a0 n cap0) n Y) (h1 : BIn w (.slice a1 m cap1) m Z) (hY : Byte n Y) (hZ : Byte m Z) :
    Calls Try.prog 3 #[.slice a0 n cap0, .slice a1 m cap1] w fun e w' => e = .returned (.bool true) ∧ Below w.heap.size w w' := by
  have hb0 : n ≤ cap0 ∧ cap0 ≤ 9223372036854775807 ∧ (a0 = none → n = 0 ∧ cap0 = 0) := by
    obtain ⟨ao, c, hv, h2, h3, h4, _⟩ := h0
    simp only [Value.slice.injEq] at hv
    obtain ⟨rfl, _, rfl⟩ := hv
    unfold maxLen at h3
    exact ⟨h2, by omega, h4⟩
  have hb1 : m ≤ cap1 ∧ cap1 ≤ 9223372036854775807 ∧ (a1 = none → m = 0 ∧ cap1 = 0) := by
    obtain ⟨ao, c, hv, h2, h3, h4, _⟩ := h1
    simp only [Value.slice.injEq] at hv
    obtain ⟨rfl, _, rfl⟩ := hv
    unfold maxLen at h3
    exact ⟨h2, by omega, h4⟩
  obtain ⟨k1, k2, k3⟩ := hb0
  obtain ⟨l1, l2, l3⟩ := hb1
  have HY : Hid (Byte n Y ∧ Byte m Z) := ⟨hY, hZ⟩
  clear hY hZ
  go_enter Try.func3, Try.ntmps3
  go_wp2_with fail
  refine (bytes_any a0 n cap0 a1 m cap1 w (by omega) (by omega)).mono ?_
  rintro e w1 ⟨⟨b, rfl⟩, hw1⟩; obtain rfl := hw1.symm
  cases b
  · go_wp2
    go_ret
    exact ⟨rfl, Below.refl _ _⟩
  by_cases hn : 4096 < n
  · go_wp2
    go_ret
    exact ⟨rfl, Below.refl _ _⟩
  by_cases hm : 4096 < m
  · go_wp2
    go_ret
    exact ⟨rfl, Below.refl _ _⟩
  go_upto_if 20 with fail
  go_cut [0, 5] (fun s u wx => ∃ bo c, s = .slice bo n c ∧ BRow wx (.slice bo n c) n Y ∧ Below w.heap.size w wx)
  case first =>
    rcases a0 with _ | x0
    · obtain ⟨rfl, rfl⟩ := k3 rfl
      clear h0 h1 l3
      go_wp2
      go_meet
      case rel => exact ⟨none, 0, rfl, ⟨none, 0, rfl, Nat.le_refl _, by unfold maxLen; omega, .inl ⟨rfl, rfl, rfl⟩⟩, Below.refl _ _⟩
    · have hmk := run_make_row' (P := Try.prog) 22 5 (.int .u8 0) 1 Try.underlying22 Try.info5 rfl .i64 .i64 n (by omega) (by omega)
      obtain ⟨W, hcp, hr, hbl, _⟩ := copy_made w (some x0) n cap0 Y h0 (by omega)
      clear h0 h1 k3 l3
      go_wp2
      go_meet
      case rel => exact ⟨_, n, rfl, hr, hbl⟩
  case rest =>
    obtain ⟨bo, c, rfl, r0, bw⟩ := hcut
    have h1' := h1.below bw
    clear h0 h1 k3
    go_upto_if 29 with fail
    go_cut [1, 6] (fun s u wx => ∃ bo c, s = .slice bo m c ∧ BRow wx (.slice bo m c) m Z ∧ Below wc.heap.size wc wx)
    case first =>
      rcases a1 with _ | x1
      · obtain ⟨rfl, rfl⟩ := l3 rfl
        clear h1' r0 bw
        go_wp2
        go_meet
        case rel => exact ⟨none, 0, rfl, ⟨none, 0, rfl, Nat.le_refl _, by unfold maxLen; omega, .inl ⟨rfl, rfl, rfl⟩⟩, Below.refl _ _⟩
      · have hmk := run_make_row' (P := Try.prog) 22 5 (.int .u8 0) 1 Try.underlying22 Try.info5 rfl .i64 .i64 m (by omega) (by omega)
        obtain ⟨W, hcp, hr, hbl, _⟩ := copy_made wc (some x1) m cap1 Z h1' (by omega)
        clear h1' r0 bw l3
        go_wp2
        go_meet
        case rel => exact ⟨_, m, rfl, hr, hbl⟩
    case rest =>
      rename_i wd
      obtain ⟨co, d, rfl, r1, bw1⟩ := hcut
      have r0' := r0.below bw1
      have bb := bw.trans (bw1.mono bw.size)
      clear r0 bw bw1 h1' l3
      go_wp2_with fail
      refine (zzpm_any _ _ n m Y Z _ r0' r1 HY.out.1 HY.out.2).mono ?_
      rintro e w5 ⟨⟨r, rfl, hr⟩, hw5⟩; obtain rfl := hw5.symm
      have HR : Hid (PM n Y m Z r) := hr
      have hrn : r ≤ n := hr.1
      have hrm : r < m ∨ r = 0 := hr.2.1
      clear hr
      rcases m with _ | m
      · have hr0 : r = 0 := by omega
        subst hr0
        clear hrm
        go_wp2
        go_ret
        exact ⟨rfl, bb⟩
      have hrm' : r < m + 1 := by omega
      have hm0 : ((m : Int) + 1 == 0) = false := by simp; omega
      clear hrm
      obtain ⟨co', d', hv, d1, d2, d3⟩ := id r1
      simp only [Value.slice.injEq] at hv
      obtain ⟨rfl, _, rfl⟩ := hv
      rcases d3 with ⟨_, h0, _⟩ | ⟨x, off, rfl, hx, hc⟩
      · omega
      clear hc
      unfold maxLen at d2
      have hdrop : ∀ k, k < m + 1 → BRow wc (.slice (some ⟨x, off + k, none⟩) (m + 1 - k) (d - k)) (m + 1 - k) (fun i => Z (k + i)) := fun k hk => r1.drop k (by omega) (fun b o h => by simp only [Option.some.injEq, Addr.mk.injEq] at h; obtain ⟨rfl, rfl, _⟩ := h; exact .inl ⟨by omega, rfl⟩) (fun h => by cases h)
      have hj : ∀ k, k < m + 1 → Calls Try.prog 6 #[.slice bo n c, .slice (some ⟨x, off + k, none⟩) (m + 1 - k) (d - k), .slice (some ⟨x, off, none⟩) (m + 1) d] wc fun e w' => e = .returned (.bool (sufB n Y k Z)) ∧ w' = wc := fun k hk => by
        rw [← jew_suf n Y (m + 1) Z k (by omega)]
        exact join_any _ _ _ n (m + 1 - k) (m + 1) Y _ Z wc r0' (hdrop k hk) r1 (by omega) (by omega) (by omega)
      have h1 := hj r hrm'
      rw [pm_yes HR.out] at h1
      have H1 := (show Hid _ from h1)
      have h2 : ∀ k, r < k → k < m + 1 → Calls Try.prog 6 #[.slice bo n c, .slice (some ⟨x, off + k, none⟩) (m + 1 - k) (d - k), .slice (some ⟨x, off, none⟩) (m + 1) d] wc fun e w' => e = .returned (.bool false) ∧ w' = wc := fun k hk1 hk2 => by
        have := hj k hk2
        rw [pm_no HR.out hk1 hk2] at this
        exact this
      have H2 := (show Hid _ from h2)
      clear h1 h2 hj hdrop r1 r0' HR
      go_wp2_with fail
      refine Calls.mono H1.out ?_
      rintro e w6 ⟨rfl, hw6⟩; obtain rfl := hw6.symm
      clear H1
      go_wp2
      go_loopg [8] (m + 1) (fun k i wx => ∃ j : Nat, r < j ∧ j ≤ m + 1 ∧ m + 1 - j ≤ k ∧ i = .int .i64 j ∧ wx = wc)
      case atStart => exact ⟨r + 1, by omega, by omega, by omega, by go_num, rfl⟩
      case round =>
        obtain ⟨j, hj1, hj2, hj3, rfl, hwr⟩ := hrel
        subst hwr
        by_cases hlt : j < m + 1
        · have hltd : decide ((j : Int) < (m : Int) + 1) = true := by simp; omega
          go_wp2_with fail
          refine Calls.mono (H2.out j hj1 hlt) ?_
          rintro e w6 ⟨rfl, hw6⟩; obtain rfl := hw6.symm
          go_wp2
          go_roundg (m + 1 - (j + 1))
          case measure => omega
          case rel => exact ⟨j + 1, by omega, by omega, by omega, by go_num, rfl⟩
        · have hltd : decide ((j : Int) < (m : Int) + 1) = false := by simp; omega
          go_wp2
          go_ret
          exact ⟨rfl, bb⟩

end Go.Proofs.Qxb6605919a
