import Derived.Test.Qxb6606008aDec
namespace Go.Proofs.Qxb6606008a
open Go.RowKit
set_option linter.unusedVariables false
set_option linter.unusedSimpArgs false

theorem full_form2 {w : World} {v : Value} {bs : List Int} (h : Full w v bs) : ∃ ao cap, v = .slice ao bs.length cap := by
  rcases h with ⟨hm, ⟨rfl, h0⟩ | ⟨b, rfl, hb, hc⟩⟩
  · exact ⟨none, 0, by rw [h0]⟩
  · exact ⟨_, _, rfl⟩

set_option maxRecDepth 100000 in
set_option maxHeartbeats 2000000 in
theorem back_any (v : Value) (bs : List Int) (s : ByteArray) (w : World) (h : RIn w v bs) (hs : s.size ≤ maxLen) :
    Calls Try.prog 4 #[v, .string s] w fun e w' => e = .returned (.bool true) ∧ Below w.heap.size w w' := by
  obtain ⟨ao, cap, rfl, h1, h2, h4, h3⟩ := id h
  unfold maxLen at h2 hs
  clear h4 h3
  go_enter Try.func4, Try.ntmps4
  go_wp2_with fail
  refine (bytes7_any _ _ _ _ _).mono ?_
  rintro e w1 ⟨hB, hw1⟩; obtain rfl := hw1.symm
  obtain ⟨b, rfl⟩ := hB
  cases b
  · go_wp2
    go_ret
    exact ⟨rfl, Below.refl _ _⟩
  by_cases hn' : 1048576 < bs.length
  · go_wp2
    go_ret
    exact ⟨rfl, Below.refl _ _⟩
  have hn : bs.length ≤ 1048576 := by omega
  by_cases hsn' : 1048576 < s.size
  · go_wp2
    go_ret
    exact ⟨rfl, Below.refl _ _⟩
  have hsn : s.size ≤ 1048576 := by omega
  by_cases hsum' : 1048576 < bs.length + s.size
  · go_wp2
    go_ret
    exact ⟨rfl, Below.refl _ _⟩
  have hsum : bs.length + s.size ≤ 1048576 := by omega
  clear hn' hsn' hsum'
  go_wp2_with fail
  refine (clone_any _ bs _ h hn).mono ?_
  rintro e w1 ⟨v1, rfl, F1, b1⟩
  obtain ⟨a1, c1, hv1⟩ := full_form2 F1
  subst hv1
  go_wp2_with fail
  refine (zzjson_any _ bs s _ F1 hsum).mono ?_
  rintro e w2 ⟨v2, rfl, O2, b2⟩
  have R1 : Rd w2 _ bs := F1.rd.below b2 F1.rd.lt
  have hTe : bs ++ 34 :: encs (nums s) ++ [34] = bs ++ lit (nums s) := by simp [lit]
  rw [hTe] at O2
  have R2 := own_rd O2
  have hll := lit_len (nums s)
  have hTl : (bs ++ lit (nums s)).length = bs.length + (lit (nums s)).length := List.length_append
  have hlm : (lit (nums s)).length ≤ 8388608 := by
    have := (encs_len (nums s)).2
    rw [nums_len] at this
    simp only [lit, List.length_append, List.length_cons, List.length_nil]
    omega
  have hl2 : 2 ≤ (lit (nums s)).length := by simp only [lit, List.length_append, List.length_cons, List.length_nil]; omega
  obtain ⟨a2, c2, rfl, hc2, hm2, R2⟩ := R2
  rcases R2 with ⟨_, h0, _⟩ | ⟨g, off, rfl, hg, hc⟩
  · omega
  have ca : ∀ i, i < bs.length → w2.cell? ⟨g, off + i, none⟩ = some (.int .u8 (bs.getD i 0)) := fun i hi => by
    rw [hc i (by omega), List.getD_eq_getElem?_getD, List.getD_eq_getElem?_getD, List.getElem?_append_left hi]
  have cb : ∀ i, i < (lit (nums s)).length → w2.cell? ⟨g, off + bs.length + i, none⟩ = some (.int .u8 ((lit (nums s)).getD i 0)) := fun i hi => by
    rw [Nat.add_assoc, hc (bs.length + i) (by omega), List.getD_eq_getElem?_getD, List.getD_eq_getElem?_getD, List.getElem?_append_right (by omega), Nat.add_sub_cancel_left]
  rw [hTl] at hc2 ⊢
  obtain ⟨M, hM⟩ : ∃ M, (lit (nums s)).length = M := ⟨_, rfl⟩
  rw [hM] at hlm hl2 cb hc2 ⊢
  have hm2' : c2 ≤ 9223372036854775807 := by unfold maxLen at hm2; omega
  have HD : Hid (∀ wx, Below w2.heap.size w2 wx → Calls Try.prog 10 #[.slice (some ⟨g, off + bs.length, none⟩) M (c2 - bs.length)] wx fun e w' => ∃ v', e = .returned (.tuple #[v', .bool true]) ∧ w'.ownsRow wx.heap.size 5 1 v' s.size (cells (nums s)) ∧ Below wx.heap.size wx w') := fun wx bx => by
    have h0 := dec_any g (off + bs.length) (c2 - bs.length) (nums s) (nums_byte s) (by rw [nums_len]; omega) wx (by have := bx.size; omega) (by rw [hM]; omega) (by omega) (fun i hi => (bx.cell (p := ⟨g, off + bs.length + i, none⟩) hg).trans (cb i (by omega)))
    rw [hM, nums_len] at h0
    exact h0
  have bW2 : Below w.heap.size w w2 := b1.trans (b2.mono b1.size)
  obtain ⟨aoD, capD, hvD, r1, r2, r3⟩ := R1
  simp only [Value.slice.injEq] at hvD
  obtain ⟨rfl, _, rfl⟩ := hvD
  unfold maxLen at r2
  clear hM cb hc O2 F1 b1 b2 h hll hTl hTe hm2
  go_wp2
  go_loopg [6] bs.length (fun k i wx => ∃ j : Nat, j ≤ bs.length ∧ bs.length - j ≤ k ∧ i = .int .i64 j ∧ Below w2.heap.size w2 wx)
  case atStart => exact ⟨0, by omega, by omega, by go_num, Below.refl _ _⟩
  case round =>
    obtain ⟨j, hj, hjk, rfl, bx⟩ := hrel
    by_cases hlt : j < bs.length
    · rcases r3 with ⟨_, h0, _⟩ | ⟨b', off', rfl, hb', hc'⟩
      · omega
      have cx := (bx.cell (p := ⟨g, off + j, none⟩) hg).trans (ca j hlt)
      have cy := (bx.cell (p := ⟨b', off' + j, none⟩) hb').trans (hc' j hlt)
      obtain ⟨x, hx⟩ : ∃ x, bs.getD j 0 = x := ⟨_, rfl⟩
      rw [hx] at cx cy
      have hxx : (x != x) = false := by simp
      clear hx ca hc' HD
      go_wp2
      go_quiet (fail)
      go_wp2
      go_roundg (bs.length - (j + 1))
      case measure => omega
      case rel => exact ⟨j + 1, by omega, by omega, by go_num, bx.trans ⟨rfl, rfl, rfl, Nat.le_refl _, fun _ _ => rfl⟩⟩
    · have hjn : j = bs.length := by omega
      subst hjn
      obtain ⟨wz, hwz⟩ : ∃ wz, wz = wr := ⟨_, rfl⟩
      subst hwz
      have HD2 : Hid _ := HD.out wz bx
      clear hlt ca r3 HD
      go_wp2_with fail
      refine Calls.mono HD2.out ?_
      rintro e w3 ⟨v3, rfl, O3, b3⟩
      obtain ⟨a3, c3, hv3⟩ := own_form O3
      subst hv3
      rw [← nums_len] at O3
      have R3 := own_rd O3
      have bW3 := bW2.trans ((bx.trans (b3.mono bx.size)).mono bW2.size)
      obtain ⟨ao3, cap3, hv3, q1, q2, q3⟩ := R3
      rw [nums_len] at hv3 q1 q3
      simp only [Value.slice.injEq] at hv3
      obtain ⟨rfl, _, rfl⟩ := hv3
      unfold maxLen at q2
      have hss : ((s.size : Int) != (s.size : Int)) = false := by simp
      clear O3 HD2 bx b3 bW2
      go_wp2
      go_loopg [9] s.size (fun k i wx => ∃ j : Nat, j ≤ s.size ∧ s.size - j ≤ k ∧ i = .int .i64 j ∧ Below w3.heap.size w3 wx)
      case atStart => exact ⟨0, by omega, by omega, by go_num, Below.refl _ _⟩
      case round =>
        rename_i wr2
        obtain ⟨j, hj, hjk, rfl, bx⟩ := hrel
        by_cases hlt : j < s.size
        · rcases q3 with ⟨_, h0, _⟩ | ⟨b', off', rfl, hb', hc'⟩
          · omega
          have cx := (bx.cell (p := ⟨b', off' + j, none⟩) hb').trans (hc' j hlt)
          rw [nums_at s j hlt] at cx
          obtain ⟨x, hx⟩ : ∃ x : Int, (s[j].toNat : Int) = x := ⟨_, rfl⟩
          rw [hx] at cx
          have hxx : (x != x) = false := by simp
          clear hc'
          go_wp2
          go_quiet (fail)
          go_wp2
          go_roundg (s.size - (j + 1))
          case measure => omega
          case rel => exact ⟨j + 1, by omega, by omega, by go_num, bx.trans ⟨rfl, rfl, rfl, Nat.le_refl _, fun _ _ => rfl⟩⟩
        · go_wp2
          go_ret
          exact ⟨rfl, bW3.trans (bx.mono bW3.size)⟩
end Go.Proofs.Qxb6606008a
