import Derived.Test.Qxb6606008aHelp
import Derived.Deep.Upon
import Derived.Lib.JoinLaws
namespace Go.Proofs.Qxb6606008a
open Go.RowKit
set_option linter.unusedVariables false
set_option linter.unusedSimpArgs false

theorem full_form {w : World} {v : Value} {bs : List Int} (h : Full w v bs) : ∃ ao cap, v = .slice ao bs.length cap := by
  rcases h with ⟨hm, ⟨rfl, h0⟩ | ⟨b, rfl, hb, hc⟩⟩
  · exact ⟨none, 0, by rw [h0]⟩
  · exact ⟨_, _, rfl⟩

/-- append(want, dst...), want a row of the call's own, dst a row that is read (it may be nil). -/
theorem list_append_rd (w : World) {ops : Array Oper} {rest : List Oper} {o : Oper} {a : Act} {Q : Exit → Act → World → Prop} (hgd : o.guard = none) (s x : Operand)
    (ho : o.op = .call { callee := .builtin .append, args := #[s, x], argTypes := #[24, 24] })
    (base : Nat) (v : Value) (X : List Int) (hs : a.eval s = v) (hown : w.ownsRow base 5 1 v X.length (cells X))
    (xv : Value) (zs : List Int) (hx : a.eval x = xv) (hr : Rd w xv zs) (h63 : X.length + zs.length ≤ 140737488355328) (hbase : base ≤ w.heap.size)
    (h : ∀ v' w', w'.ownsRow base 5 1 v' (X ++ zs).length (cells (X ++ zs)) → w.grownBy w' v.ownBlock → wpList Try.prog ops Q rest (a.put o.dst v') w') : wpList Try.prog ops Q (o :: rest) a w := by
  obtain ⟨i0, hi, hz0, hz1, hz2⟩ := info_parts info5
  obtain ⟨ao, cap, rfl, h1, h2, h3⟩ := hr
  rcases h3 with ⟨rfl, h0, rfl⟩ | ⟨b, off, rfl, hb, hc⟩
  · obtain rfl : zs = [] := List.eq_nil_of_length_eq_zero h0
    obtain ⟨bo, vc, hv, hle⟩ : ∃ bo vc, v = .slice bo X.length vc ∧ X.length ≤ vc := by
      rcases hown.2 with ⟨rfl, h0⟩ | ⟨g, cap, cur, rfl, _, _, hn, _⟩
      · exact ⟨none, 0, by rw [h0], by omega⟩
      · exact ⟨_, cap, rfl, hn⟩
    have hrun := run_append_nothing (P := Try.prog) w 24 24 o.type 5 i0 Try.underlying24 hi bo X.length vc hle (.slice none 0 0) (Src.ofNil w Try.underlying24 0)
    refine wpList_plain hgd fun K hK' => ?_
    have h' := h v w (by simpa using hown) (World.grownBy.refl w _)
    rw [hv] at hs h'
    unfold Oper.wp
    have hx' : a.eval x = .slice none 0 0 := hx
    simp [execOp, ho, resolve, invoke, builtin, hs, hx', hrun, Result.andThen]
    exact hK' _ _ h'
  · refine wpList_append_own w hgd s x 24 ho base 5 i0 (.int .u8 0) 1 1 Try.underlying24 hi hz0 hz1 hz2 rfl (by decide) v X.length (cells X) hs hown ⟨b, off, none⟩ zs.length cap (cells zs) hx (by rw [cells_len, Nat.mul_one]) ?_ (cells_one zs) (by unfold maxLen; omega) (by omega) hbase ?_
    · intro j u hu
      have hj : j < zs.length := by
        have := (List.getElem?_eq_some_iff.1 hu).1
        rwa [cells_len] at this
      rw [Addr.add_lit, hc j hj]
      simp only [cells, List.getElem?_map, List.getElem?_eq_getElem hj, Option.map_some, Option.some.injEq] at hu
      rw [List.getD_eq_getElem?_getD, List.getElem?_eq_getElem hj]
      simpa using hu
    · intro v' w' p1 p2 _
      refine h v' w' ?_ p2
      rw [cells_append, List.length_append]
      exact p1

set_option maxRecDepth 100000 in
set_option maxHeartbeats 2000000 in
theorem wise_any (v : Value) (bs : List Int) (s : ByteArray) (w : World) (h : RIn w v bs) (hs : s.size ≤ maxLen) :
    Calls Try.prog 5 #[v, .string s] w fun e w' => e = .returned (.bool true) ∧ Below w.heap.size w w' := by
  obtain ⟨i0, hi, hz0, hz1, hz2⟩ := info_parts info5
  obtain ⟨ao, cap, rfl, h1, h2, h4, h3⟩ := id h
  unfold maxLen at h2 hs
  clear h4 h3
  go_enter Try.func5, Try.ntmps5
  go_wp2_with fail
  refine (bytes11_any _ _ _ _ _).mono ?_
  rintro e w1 ⟨hB, hw1⟩; obtain rfl := hw1.symm
  obtain ⟨b, rfl⟩ := hB
  cases b
  · go_wp2
    go_ret
    exact ⟨rfl, Below.refl _ _⟩
  by_cases hn' : 1048576 < bs.length
  · go_wp2
    go_ret
    exact ⟨rfl, Below.refl _ _⟩
  have hn : bs.length ≤ 1048576 := by omega
  by_cases hsn' : 1048576 < s.size
  · go_wp2
    go_ret
    exact ⟨rfl, Below.refl _ _⟩
  have hsn : s.size ≤ 1048576 := by omega
  by_cases hsum' : 1048576 < bs.length + s.size
  · go_wp2
    go_ret
    exact ⟨rfl, Below.refl _ _⟩
  have hsum : bs.length + s.size ≤ 1048576 := by omega
  clear hn' hsn' hsum'
  go_wp2_with fail
  refine (clone_any _ bs _ h hn).mono ?_
  rintro e w1 ⟨v1, rfl, F1, b1⟩
  obtain ⟨a1, c1, hv1⟩ := full_form F1
  subst hv1
  go_wp2_with fail
  refine (zzjson_any _ bs s _ F1 hsum).mono ?_
  rintro e w2 ⟨v2, rfl, O2, b2⟩
  obtain ⟨a2, c2, hv2⟩ := own_form O2
  subst hv2
  have R1 : Rd w2 _ bs := F1.rd.below b2 F1.rd.lt
  have R2 := own_rd O2
  have hTl : bs.length + 2 + s.size ≤ (bs ++ 34 :: encs (nums s) ++ [34]).length ∧ (bs ++ 34 :: encs (nums s) ++ [34]).length ≤ bs.length + 2 + 6 * s.size := by
    have h1 := encs_len (nums s)
    rw [nums_len] at h1
    simp only [List.length_append, List.length_cons, List.length_nil]
    omega
  obtain ⟨T, hT⟩ : ∃ T, bs ++ 34 :: encs (nums s) ++ [34] = T := ⟨_, rfl⟩
  rw [hT] at R2 hTl ⊢
  have HT : Hid (bs ++ 34 :: encs (nums s) ++ [34] = T) := hT
  have hmk : ∀ w, (Instr.makeSlice 24 (.int .i64 0) (.int .i64 ((bs.length : Int) + 2 + 6 * (s.size : Int)))).run Try.prog w = .ok (.slice (some ⟨w.heap.size, 0, none⟩) 0 (bs.length + 2 + 6 * s.size)) (w.alloc (.cells (madeCells #[.int .u8 0] (bs.length + 2 + 6 * s.size)) 5)) := fun w => by
    have h0 := run_make_room (P := Try.prog) 24 5 (.int .u8 0) 1 Try.underlying24 info5 rfl .i64 .i64 (bs.length + 2 + 6 * s.size) (by omega) (by omega) w
    have e : ((bs.length + 2 + 6 * s.size : Nat) : Int) = (bs.length : Int) + 2 + 6 * (s.size : Int) := by omega
    rw [e] at h0
    exact h0
  have OW : (w2.alloc (.cells (madeCells #[.int .u8 0] (bs.length + 2 + 6 * s.size)) 5)).ownsRow w2.heap.size 5 1 (.slice (some ⟨w2.heap.size, 0, none⟩) 0 (bs.length + 2 + 6 * s.size)) ([] : List Int).length (cells []) := World.ownsRow_made w2 _ _ (Nat.le_refl _) (by unfold maxLen; omega) (by rw [size_madeCells, Nat.mul_one])
  have bA := (Below.refl w2.heap.size w2).alloc (Nat.le_refl _) (.cells (madeCells #[.int .u8 0] (bs.length + 2 + 6 * s.size)) 5)
  have R1' := R1.below bA R1.lt
  have hw12 := b1.size
  have hw22 := b2.size
  have bW2 : Below w.heap.size w w2 := b1.trans (b2.mono b1.size)
  clear hT b1 b2 F1 O2 h
  go_wp2_with (at_builtin; refine list_append_rd _ rfl (.tmp 38) (.tmp 39) rfl w2.heap.size _ [] rfl OW _ bs rfl R1' (by simp; omega) (by simp) ?_)
  intro v3 w3 O3 g3
  have b3 : Below w2.heap.size w2 w3 := bA.grown g3 (by simp) (fun k hk => (OW.lt k hk).1)
  clear hmk OW bA R1' g3
  go_wp2_with (at_builtin; refine wpList_append_own _ rfl _ _ 24 rfl w2.heap.size 5 i0 (.int .u8 0) 1 1 Try.underlying24 hi hz0 hz1 hz2 rfl (by decide) _ _ _ rfl (O3.alloc _) ⟨w3.heap.size, 0, none⟩ 1 1 [.int .u8 34] rfl rfl (cell_one_new _ _ _) (ints_oneCell .u8 [34]) (by unfold maxLen; omega) (by omega) (by have := b3.size; simp; omega) ?_)
  intro v4 w4 O4' g4 _
  have O4 : w4.ownsRow w2.heap.size 5 1 v4 (upto bs (nums s) 0).length (cells (upto bs (nums s) 0)) := by
    rw [upto_zero, cells_append, List.length_append]
    exact O4'
  have b4 : Below w2.heap.size w2 w4 := (b3.alloc b3.size _).grown g4 (by have := b3.size; simp; omega) (fun k hk => (O3.lt k hk).1)
  clear O3 O4' g4 b3
  have hS := nums_len s
  go_wp2
  go_loopg [6, 7] s.size (fun k d i wx => ∃ j : Nat, j ≤ s.size ∧ s.size - j ≤ k ∧ i = .int .i64 j ∧ wx.ownsRow w2.heap.size 5 1 d (upto bs (nums s) j).length (cells (upto bs (nums s) j)) ∧ Below w2.heap.size w2 wx)
  case atStart => exact ⟨0, by omega, by omega, by go_num, O4, b4⟩
  case round =>
    obtain ⟨j, hj, hjk, rfl, own, bx⟩ := hrel
    by_cases hlt : j < s.size
    · have hxs := extract_size s j (j + 1) (by omega) (by omega)
      have hxn : nums (s.extract j (j + 1)) = [(nums s).getD j 0] := by
        rw [nums_extract, take_succ' _ _ (by omega), List.drop_append_of_le_length (by simp; omega)]
        simp
      obtain ⟨x, hx⟩ : ∃ x, (nums s).getD j 0 = x := ⟨_, rfl⟩
      rw [hx] at hxn
      have hel := enc_len x
      have HC := zzjson_any (.slice none 0 0) [] (s.extract j (j + 1)) wr ⟨by unfold maxLen; simp, .inl ⟨rfl, rfl⟩⟩ (by simp; omega)
      rw [hxn, encs_one, List.nil_append] at HC
      have HC' : Hid _ := HC
      have HXJ : Hid ((nums s).getD j 0 = x) := hx
      clear HC hxn hx
      go_wp2_with fail
      refine Calls.mono HC'.out ?_
      rintro e w5 ⟨v5, rfl, O5, b5⟩
      have R5 := own_rd O5
      have hl5 : (34 :: enc x ++ [34]).length = (enc x).length + 2 := by simp
      obtain ⟨a5, c5, rfl, hc5, hm5, h5⟩ := R5
      rw [hl5] at h5 hc5
      rcases h5 with ⟨_, h0, _⟩ | ⟨g, off, rfl, hg, hc⟩
      · omega
      obtain ⟨es, hes⟩ : ∃ es, enc x = es := ⟨_, rfl⟩
      have HE : Hid (enc x = es) := hes
      rw [hes] at hc hl5 hel hc5 ⊢
      rw [hl5]
      have k0 : w5.cell? ⟨g, off, none⟩ = some (.int .u8 34) := hc 0 (by omega)
      have k1 : w5.cell? ⟨g, off + (es.length + 1), none⟩ = some (.int .u8 34) := by
        rw [hc (es.length + 1) (by omega)]
        congr 2
        rw [List.getD_eq_getElem?_getD, List.getElem?_append_right (by simp)]
        simp
      have k2 : ∀ j u, (cells es)[j]? = some u → w5.cell? ((⟨g, off + 1, none⟩ : Addr).add j) = some u := by
        intro j u hu
        have hj : j < es.length := by
          have := (List.getElem?_eq_some_iff.1 hu).1
          rwa [cells_len] at this
        rw [Addr.add_lit, Nat.add_assoc, hc (1 + j) (by omega)]
        simp only [cells, List.getElem?_map, List.getElem?_eq_getElem hj, Option.map_some, Option.some.injEq] at hu
        rw [← hu]
        congr 2
        rw [List.getD_eq_getElem?_getD, Nat.add_comm 1 j, List.cons_append, List.getElem?_cons_succ, List.getElem?_append_left hj, List.getElem?_eq_getElem hj]
        rfl
      have own5 := own_below own b5
      have b6 : Below w2.heap.size w2 w5 := bx.trans (b5.mono bx.size)
      have gne : g < w5.heap.size := hg
      obtain ⟨Y, hY⟩ : ∃ Y, upto bs (nums s) j = Y := ⟨_, rfl⟩
      have HY : Hid (Y = upto bs (nums s) j) := hY.symm
      have hYl : Y.length ≤ 8388608 := by have := upto_len bs (nums s) j; rw [hY] at this; omega
      rw [hY] at own5
      have hm5' : c5 ≤ 9223372036854775807 := by unfold maxLen at hm5; omega
      clear hes hc O5 own HC' bx b5 hm5 hl5 hY
      obtain ⟨m, hm⟩ : ∃ m, es.length = m := ⟨_, rfl⟩
      have HM : Hid (es.length = m) := hm
      rw [hm] at k1 hel hc5 ⊢
      clear hm
      go_wp2_with (at_builtin; refine wpList_append_own _ rfl (.tmp 74) (.tmp 79) 24 rfl w2.heap.size 5 i0 (.int .u8 0) 1 1 Try.underlying24 hi hz0 hz1 hz2 rfl (by decide) _ Y.length (cells Y) rfl own5 ⟨g, off + 1, none⟩ m (c5 - 1) (cells es) rfl (by rw [cells_len, Nat.mul_one]; exact HM.out) k2 (cells_one es) (by unfold maxLen; omega) (by omega) b6.size ?_)
      intro v6 w6 own6 g6 _
      have own7 := own_next (by omega) HY.out HXJ.out es HE.out (by rw [HM.out]) own6
      have b7 : Below w2.heap.size w2 w6 := b6.grown g6 b6.size (fun k hk => (own5.lt k hk).1)
      clear own6 own5 g6 b6 k0 k1 k2
      go_wp2
      go_roundg (s.size - (j + 1))
      case measure => omega
      case rel => exact ⟨j + 1, by omega, by omega, by go_num, own7, b7⟩
    · have hjs : j = s.size := by omega
      subst hjs
      clear hlt
      have hYl : (upto bs (nums s) s.size).length ≤ 8388608 := by have := upto_len bs (nums s) s.size; omega
      rw [← nums_len, upto_all] at own hYl
      obtain ⟨Y, hY⟩ : ∃ Y, bs ++ 34 :: encs (nums s) = Y := ⟨_, rfl⟩
      rw [hY] at own hYl
      have HY : Hid (bs ++ 34 :: encs (nums s) = Y) := hY
      clear hY
      go_wp2_with (at_builtin; refine wpList_append_own _ rfl _ _ 24 rfl w2.heap.size 5 i0 (.int .u8 0) 1 1 Try.underlying24 hi hz0 hz1 hz2 rfl (by decide) _ _ _ rfl (own.alloc _) ⟨wr.heap.size, 0, none⟩ 1 1 [.int .u8 34] rfl rfl (cell_one_new _ _ _) (ints_oneCell .u8 [34]) (by unfold maxLen; omega) (by omega) (by have := bx.size; simp; omega) ?_)
      intro v6 w6 own6 g6 _
      have b7 : Below w2.heap.size w2 w6 := (bx.alloc bx.size _).grown g6 (by have := bx.size; simp; omega) (fun k hk => (own.lt k hk).1)
      have own7 : w6.ownsRow w2.heap.size 5 1 v6 T.length (cells T) := by
        rw [← HT.out, HY.out, cells_append, List.length_append]
        exact own6
      have R7 := own_rd own7
      have R2' := R2.below b7 R2.lt
      have bF := bW2.trans (b7.mono bW2.size)
      have q1 : decide ((T.length : Int) < (bs.length : Int) + 2 + (s.size : Int)) = false := by simp; omega
      have q2 : decide ((bs.length : Int) + 2 + 6 * (s.size : Int) < (T.length : Int)) = false := by simp; omega
      clear own6 g6 own own7 bx b7 R2 R1 bW2
      go_wp2_with fail
      refine (equal_true _ _ T _ R2' R7).mono ?_
      rintro e w8 ⟨rfl, b8⟩
      go_wp2
      go_ret
      exact ⟨rfl, bF.trans (b8.mono bF.size)⟩
end Go.Proofs.Qxb6606008a
