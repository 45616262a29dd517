import Derived.Test.Qxb6605917aPlain
namespace Go.Proofs.Qxb6605917a
open Go.RowKit
set_option linter.unusedVariables false
set_option linter.unusedSimpArgs false

theorem Part.of_block {w w' : World} {g t N m : Nat} {f : Nat → Value} (h : Part w g t N m f) (hb : w'.heap[g]? = w.heap[g]?) : Part w' g t N m f := by
  obtain ⟨c, hc, r⟩ := h
  exact ⟨c, hb.trans hc, r⟩
theorem Part.lt {w : World} {g t N m : Nat} {f : Nat → Value} (h : Part w g t N m f) : g < w.heap.size := by
  obtain ⟨c, hc, r⟩ := h
  exact (Array.getElem?_eq_some_iff.1 hc).1
theorem SRow.of_block {w w' : World} {v : Value} {n : Nat} {S : Nat → ByteArray} (h : SRow w v n S) (hs : w.heap.size ≤ w'.heap.size) (hb : ∀ k, v.ownBlock = some k → w'.heap[k]? = w.heap[k]?) : SRow w' v n S := by
  obtain ⟨ao, cap, rfl, h1, h2, h3⟩ := h
  refine ⟨ao, cap, rfl, h1, h2, ?_⟩
  rcases h3 with h3 | ⟨b, off, rfl, hlt, hc⟩
  · exact .inl h3
  · exact .inr ⟨b, off, rfl, Nat.lt_of_lt_of_le hlt hs, fun i hi => (World.cell?_of_block (w := w) (a := ⟨b, off + i, none⟩) (hb b rfl)).trans (hc i hi)⟩

theorem Fr.toBelow {B : Nat} {rv : Value} {w w' : World} (h : Fr B rv w w') (hr : ∀ k, rv.ownBlock = some k → B < k) (hB : B ≤ w.heap.size) : Below B w w' :=
  ⟨h.os, h.tape, h.output, h.size, fun k hk => h.block k (by omega) (by omega) (fun e => by have := hr k e; omega)⟩

theorem zero_plain {t : Int} {n m : Nat} {S S' : Nat → ByteArray} {D : Nat → Int} (h : nextOk (lst n S) (lst2 m S' D) = false) : nextT t (lst n S) (lst2 m S' D) = 0 ∧ n = 0 ∧ m = 0 := by
  rw [nextOk_len, lst_len, lst2_len] at h
  have h1 : n = 0 ∧ m = 0 := by simp at h; omega
  refine ⟨?_, h1⟩
  rw [h1.1, h1.2]
  rfl

theorem early_plain {t : Int} {n m : Nat} {S S' : Nat → ByteArray} {D : Nat → Int} (h : nextOk (lst n S) (lst2 m S' D) = true) :
    (nextT t (lst n S) (lst2 m S' D) = t ∧ 0 < n) ∨ (nextT t (lst n S) (lst2 m S' D) = t ∧ n = 0 ∧ 0 < m ∧ D 0 ≤ t) ∨ (n = 0 ∧ 0 < m ∧ t < D 0 ∧ nextT t (lst n S) (lst2 m S' D) = D 0) := by
  have hd : ∀ d r, lst2 m S' D = d :: r → 0 < m ∧ d.2 = D 0 := fun d r e => by
    cases m with
    | zero => simp [lst2] at e
    | succ m =>
      have := congrArg (fun l => l[0]?) e
      simp [lst2] at this
      exact ⟨by omega, by rw [← this]⟩
  by_cases hn : 0 < n
  · rcases next_early t _ _ h with ⟨h1, _⟩ | ⟨d, r, h1, _⟩
    · exact .inl ⟨h1, hn⟩
    · have := congrArg List.length h1
      rw [lst_len] at this
      simp at this
      omega
  · have hn0 : n = 0 := by omega
    subst hn0
    rcases next_early t _ _ h with ⟨h1, h2, _⟩ | ⟨d, r, _, h2, h3, h4, _⟩
    · rcases h2 with h2 | ⟨d, r, h2, h3⟩
      · exact absurd rfl h2
      · obtain ⟨e1, e2⟩ := hd d r h2
        exact .inr (.inl ⟨h1, rfl, e1, by omega⟩)
    · obtain ⟨e1, e2⟩ := hd d r h2
      exact .inr (.inr ⟨rfl, e1, by omega, by omega⟩)

/-- What make lays for the two lists, as two blocks whose cells are still to be told. -/
theorem two_made (w : World) (L : Nat) (f1 f2 : Nat → Value) (z1 z2 : Value) : Part ((w.alloc (.cells (madeCells #[z1] L) 9)).alloc (.cells (madeCells #[z2] L) 2)) w.heap.size 9 L 0 f1 ∧
    Part ((w.alloc (.cells (madeCells #[z1] L) 9)).alloc (.cells (madeCells #[z2] L) 2)) (w.heap.size + 1) 2 L 0 f2 ∧ Below w.heap.size w ((w.alloc (.cells (madeCells #[z1] L) 9)).alloc (.cells (madeCells #[z2] L) 2)) := by
  refine ⟨⟨madeCells #[z1] L, ?_, size_madeCells _ _, fun j hj => by omega⟩, ⟨madeCells #[z2] L, ?_, size_madeCells _ _, fun j hj => by omega⟩, ((Below.refl _ _).alloc (Nat.le_refl _) _).alloc (by simp) _⟩
  · rw [heap_alloc_old _ _ (by simp), heap_alloc_new]
  · have := heap_alloc_new (w.alloc (.cells (madeCells #[z1] L) 9)) (.cells (madeCells #[z2] L) 2)
    simpa using this

set_option maxRecDepth 100000 in
set_option maxHeartbeats 4000000 in
theorem reach_any (v v' : Value) (n m : Nat) (t : Int) (S S' : Nat → ByteArray) (D : Nat → Int) (w : World) (h : SIn w v n S) (h' : PIn w v' m S' D) (ht : Inr t) (hD : ∀ i, i < m → Inr (D i)) :
    Calls Try.prog 4 #[v, v', .int .i64 t] w fun e w' => e = .returned (.bool true) ∧ Below w.heap.size w w' := by
  have HD : Hid (∀ i, i < m → Inr (D i)) := hD
  clear hD
  obtain ⟨ao, cap, rfl, hr⟩ := id h
  obtain ⟨bo, cap', rfl, hr'⟩ := id h'
  have hn63 : n ≤ 9223372036854775807 := by have := hr.1; have := hr.2.1; unfold maxLen at this; omega
  have hm63 : m ≤ 9223372036854775807 := by have := hr'.1; have := hr'.2.1; unfold maxLen at this; omega
  clear hr hr'
  go_enter Try.func4, Try.ntmps4
  go_wp2_with fail
  refine (bytesR_any _ _ n m t S S' D _ h h').mono ?_
  rintro e w1 ⟨⟨b, rfl⟩, hw1⟩; obtain rfl := hw1.symm
  cases b
  · go_wp2
    go_ret
    exact ⟨rfl, Below.refl _ _⟩
  go_wp2_with fail
  refine (addBytes_any _ _ n S _ h).mono ?_
  rintro e w1 ⟨⟨r1, rfl⟩, hw1⟩; obtain rfl := hw1.symm
  go_wp2_with fail
  refine (addDeferralBytes_any _ _ m S' D _ h').mono ?_
  rintro e w1 ⟨⟨r2, rfl⟩, hw1⟩; obtain rfl := hw1.symm
  by_cases hr2 : 1048576 < r2
  · go_wp2
    go_ret
    exact ⟨rfl, Below.refl _ _⟩
  by_cases hn : 4096 < n
  · have hd : decide (4096 < (n : Int)) = true := by simp; omega
    go_wp2
    go_ret
    exact ⟨rfl, Below.refl _ _⟩
  by_cases hm : 4096 < m
  · go_wp2
    go_ret
    exact ⟨rfl, Below.refl _ _⟩
  go_wp2_with fail
  refine (clone_any _ n S _ h (by omega)).mono ?_
  rintro e w1 ⟨v1, rfl, s1, b1, g1⟩
  go_wp2_with fail
  refine (cloneDeferrals_any _ m S' D _ (h'.below b1) (by omega)).mono ?_
  rintro e w2 ⟨v2, rfl, p2, b2, g2⟩
  have s2 := s1.below b2 s1.lt
  have bb : Below w.heap.size w w2 := b1.trans (b2.mono b1.size)
  clear h h' s1 b1 g1 g2 b2
  go_wp2_with fail
  refine (newQueue_any _).mono ?_
  rintro e w3 ⟨rfl, hw3⟩
  have qp : QP w2.heap.size w3 (lst 0 S) (lst2 0 S' D) [] := by rw [hw3]; exact qp_start w2
  have b3 : Below w2.heap.size w2 w3 := by rw [hw3]; exact (Below.refl _ _).alloc (Nat.le_refl _) _
  have s1lt := s2.lt
  have p2lt := p2.lt
  clear hw3
  generalize hB : w2.heap.size = B at *
  have bB : w.heap.size ≤ B := by have := bb.size; omega
  obtain ⟨xo, c1, hv1, hh1⟩ := id s2
  obtain ⟨yo, c2, hv2, hh2⟩ := id p2
  subst hv1
  subst hv2
  clear hB
  go_wp2
  go_loopg [9] n (fun k i wr => ∃ j, j ≤ n ∧ n - j ≤ k ∧ i = .int .i64 (j : Nat) ∧ QP B wr (lst j S) (lst2 0 S' D) [] ∧ Below B w2 wr)
  case atStart => exact ⟨0, by omega, by omega, rfl, qp, b3⟩
  case round =>
    obtain ⟨j, hj, hjk, rfl, Q, bw⟩ := hrel
    by_cases hlt : j < n
    · obtain ⟨x, hx⟩ : ∃ x, S j = x := ⟨_, rfl⟩
      have Q' : QP B wr (lst j S ++ [x]) (lst2 0 S' D) [] → QP B wr (lst (j + 1) S) (lst2 0 S' D) [] := by rw [lst_succ, hx]; exact id
      rcases hh1.2.2 with ⟨_, h0, _⟩ | ⟨b, off, rfl, hb, hc⟩
      · omega
      have hcx : wr.cell? ⟨b, off + j, none⟩ = _ := (bw.cell (p := ⟨b, off + j, none⟩) (s1lt b rfl)).trans (hc j hlt)
      rw [hx] at hcx
      have HX : Hid (S j = x) := hx
      clear hx hh1 hh2 hc
      go_wp2_with fail
      refine (pushReady_any B x _ _ _ _ Q (by rw [lst_len]; omega)).mono ?_
      rintro e w4 ⟨rfl, Q4, b4⟩
      go_wp2
      go_roundg (n - (j + 1))
      case measure => omega
      case rel => exact ⟨j + 1, by omega, by omega, by go_num, by rw [lst_succ, HX.out]; exact Q4, bw.trans b4⟩
    · have hjn : n = j := by omega
      subst hjn
      clear hlt hjk hj qp b3
      go_wp2
      go_loopg [10] m (fun k i wr => ∃ j, j ≤ m ∧ m - j ≤ k ∧ i = .int .i64 (j : Nat) ∧ QP B wr (lst n S) (lst2 j S' D) [] ∧ Below B w2 wr)
      case atStart => exact ⟨0, by omega, by omega, rfl, Q, bw⟩
      case round =>
        clear Q bw
        rename_i wr0
        obtain ⟨j, hj, hjk, rfl, Q, bw⟩ := hrel
        by_cases hlt : j < m
        · obtain ⟨x, hx⟩ : ∃ x, S' j = x := ⟨_, rfl⟩
          obtain ⟨y, hy⟩ : ∃ y, D j = y := ⟨_, rfl⟩
          have hin := HD.out j hlt
          rcases hh2.2.2 with ⟨_, h0, _⟩ | ⟨b, off, rfl, hb, hc⟩
          · omega
          have hcx : wr.cell? ⟨b, off + j * 2, none⟩ = _ := (bw.cell (p := ⟨b, off + j * 2, none⟩) (p2lt b rfl)).trans (hc j hlt).1
          have hcy : wr.cell? ⟨b, off + j * 2 + 1, none⟩ = _ := (bw.cell (p := ⟨b, off + j * 2 + 1, none⟩) (p2lt b rfl)).trans (hc j hlt).2
          rw [hx] at hcx
          rw [hy] at hcy hin
          have HX : Hid (S' j = x ∧ D j = y) := ⟨hx, hy⟩
          have hc2 : m ≤ c2 ∧ c2 ≤ 9223372036854775807 := ⟨hh2.1, by have := hh2.2.1; unfold maxLen at this; omega⟩
          clear hx hy hh1 hh2 hc
          have Qd : QP B wr.drew (lst n S) (lst2 j S' D) [] := Q
          go_wp2
          go_region_law (first
            | (go_simp; go_at_call 12; refine (pushDeferred_any B x y _ _ _ wr.drew Qd (by rw [lst2_len]; omega) hin.1 hin.2).mono ?_; rintro e w4 ⟨rfl, Q4, b4⟩))
          all_goals
            go_wp2
            go_roundg (m - (j + 1))
            case measure => omega
            case rel => exact ⟨j + 1, by omega, by omega, by go_num, by rw [lst2_succ, HX.out.1, HX.out.2]; exact Q4, bw.trans ((Below.refl _ _).drew.trans b4)⟩
        · have hjm : m = j := by omega
          subst hjm
          have d0len : (lst n S).length + (lst2 m S' D).length ≤ 1048576 := by rw [lst_len, lst2_len]; omega
          have hall := lst2_in (S := S') HD.out
          obtain ⟨rv, dv, bv, I⟩ := Q.toI
          obtain ⟨T, hT⟩ : ∃ T, nextT t (lst n S) (lst2 m S' D) = T := ⟨_, rfl⟩
          obtain ⟨ok, hok⟩ : ∃ ok, nextOk (lst n S) (lst2 m S' D) = ok := ⟨_, rfl⟩
          have N1 := zznext_any B t _ _ _ rv dv bv wr I d0len ht hall
          rw [hT, hok] at N1
          have HT : Hid (nextT t (lst n S) (lst2 m S' D) = T ∧ nextOk (lst n S) (lst2 m S' D) = ok) := ⟨hT, hok⟩
          have HN := (show Hid _ from N1)
          have HI := (show Hid _ from hall)
          clear hT hok N1 hall hlt hjk hj
          go_wp2_with fail
          refine Calls.mono HN.out ?_
          rintro e w5 ⟨rfl, A⟩
          clear HN
          obtain ⟨rv1, dv1, Q1, fr1, st1, hd1⟩ := A
          have hrd : (lst n S ++ (due t (lst2 m S' D)).map (·.1)).length + (later t (lst2 m S' D)).length ≤ 1048576 := by
            have e := congrArg List.length (due_later t (lst2 m S' D))
            rw [lst_len, lst2_len] at d0len
            simp only [List.length_append, List.length_map, lst2_len] at e ⊢
            rw [lst_len]
            omega
          have hin1 : ∀ d ∈ later t (lst2 m S' D), Inr d.2 := fun d hd => HI.out d (later_sub _ _ d hd)
          obtain ⟨rs1, hrs1⟩ : ∃ r, lst n S ++ (due t (lst2 m S' D)).map (·.1) = r := ⟨_, rfl⟩
          obtain ⟨ds1, hds1⟩ : ∃ r, later t (lst2 m S' D) = r := ⟨_, rfl⟩
          have HR : Hid (lst n S ++ (due t (lst2 m S' D)).map (·.1) = rs1 ∧ later t (lst2 m S' D) = ds1) := ⟨hrs1, hds1⟩
          rw [hrs1, hds1] at Q1 hrd
          rw [hds1] at hin1
          have HI1 := (show Hid _ from hin1)
          have fw5 : Below B w2 w5 := bw.trans (fr1.toBelow (fun k hk => by have := (I.r.lt k hk).1; omega) (Nat.le_of_lt I.q.lt))
          have hB5 := Q1.q.lt
          have hr5 : ∀ k, rv1.ownBlock = some k → k < w5.heap.size := fun k hk => (Q1.r.lt k hk).2
          clear hrs1 hds1 hin1 HI I Q fr1 st1 hd1 d0len
          go_wp2_with fail
          refine (ready_any B rv1 dv1 bv _ Q1.q).mono ?_
          rintro e w5' ⟨rfl, hw5⟩; obtain rfl := hw5.symm
          go_wp2_with fail
          refine (clone_any _ _ _ _ (own_srow Q1.r).toIn (by omega)).mono ?_
          rintro e w6 ⟨v3, rfl, s3, b6, g3⟩
          have Q6 := Q1.below b6
          clear Q1
          go_wp2_with fail
          refine (dlen_any B _ _ _ _ _ _ _ Q6).mono ?_
          rintro e w6' ⟨rfl, hw6⟩; obtain rfl := hw6.symm
          obtain ⟨L, hL⟩ : ∃ L, ds1.length = L := ⟨_, rfl⟩
          rw [hL]
          have hLb : L ≤ 1048576 := by omega
          have HL : Hid (ds1.length = L) := hL
          clear hL
          have hmk := run_make_row' (P := Try.prog) 22 9 (.string ByteArray.empty) 16 Try.underlying22 Try.info9h rfl .i64 .i64 L (by omega) (by omega)
          have hmk2 := run_make_row' (P := Try.prog) 43 2 (.int .i64 0) 8 Try.underlying43 Try.info2 rfl .i64 .i64 L (by omega) (by omega)
          obtain ⟨P1, P2, b7⟩ := two_made w6 L (fun j => .string (ds1.getD j (ByteArray.empty, 0)).1) (fun j => .int .i64 (ds1.getD j (ByteArray.empty, 0)).2) (.string ByteArray.empty) (.int .i64 0)
          go_wp2_with fail
          clear hmk hmk2
          generalize (w6.alloc (Obj.cells (madeCells #[Value.string ByteArray.empty] L) 9)).alloc (Obj.cells (madeCells #[Value.int IntKind.i64 0] L) 2) = w7 at *
          obtain ⟨G, hG⟩ : ∃ G, w6.heap.size = G := ⟨_, rfl⟩
          have hBG : B < G := by have := Q6.q.lt; omega
          simp only [hG] at P1 P2 b7 ⊢
          have HG : Hid (w6.heap.size = G) := hG
          clear hG
          go_loopg [17] L (fun k i wr => ∃ j, j ≤ L ∧ L - j ≤ k ∧ i = .int .i64 (j : Nat) ∧ Part wr G 9 L j (fun j => .string (ds1.getD j (ByteArray.empty, 0)).1) ∧ Part wr (G + 1) 2 L j (fun j => .int .i64 (ds1.getD j (ByteArray.empty, 0)).2) ∧ Below G w6 wr)
          case atStart => exact ⟨0, by omega, by omega, rfl, P1, P2, b7⟩
          case round =>
            clear P1 P2 b7
            rename_i wr1
            obtain ⟨j, hj, hjk, rfl, P1, P2, b8⟩ := hrel
            by_cases hlt : j < L
            · obtain ⟨d, hd⟩ : ∃ d, ds1[j]? = some d := ⟨ds1[j]'(by rw [HL.out]; exact hlt), by simp⟩
              obtain ⟨x, y⟩ := d
              have hin := HI1.out (x, y) (List.mem_of_getElem? hd)
              have e1 : ds1.getD j (ByteArray.empty, 0) = (x, y) := by rw [List.getD_eq_getElem?_getD, hd]; rfl
              have Q8 : QI 0 B wr rs1 ds1 [] rv1 dv1 bv := Q6.below (by rw [HG.out]; exact b8)
              have b9 := b8.setCell (p := ⟨G, j, none⟩) (Nat.le_refl _) (.string x)
              have Q9 : QI 0 B (wr.setCell ⟨G, j, none⟩ (.string x)) rs1 ds1 [] rv1 dv1 bv := Q6.below (by rw [HG.out]; exact b9)
              have R1 := P1.store hlt (.string x) (by rw [e1])
              have R2 := P2.of_block (w' := wr.setCell ⟨G, j, none⟩ (.string x)) (Below.heap_setCell _ _ _ _ (by show G + 1 ≠ G; omega))
              obtain ⟨u1, hu1⟩ := P1.ex j hlt
              have hf1 := P1.frozen j
              have E1 : Hid (ds1.getD j (ByteArray.empty, 0) = (x, y)) := e1
              clear e1 P1 P2 hh1 hh2
              go_wp2_with fail
              refine (did_any B _ _ _ _ _ _ _ Q8 j _ hd).mono ?_
              rintro e w8 ⟨rfl, hw8⟩; obtain rfl := hw8.symm
              go_wp2_with fail
              refine (ddue_any B _ _ _ _ _ _ _ Q9 j _ hd hin).mono ?_
              rintro e w10 ⟨rfl, b10⟩
              have R1' := R1.of_block (b10.block G R1.lt)
              have R2' := R2.of_block (b10.block (G + 1) R2.lt)
              obtain ⟨u2, hu2⟩ := R2'.ex j hlt
              have hf2 := R2'.frozen j
              have R3 := R2'.store hlt (.int .i64 y) (by rw [E1.out])
              have R4 := R1'.of_block (w' := w10.setCell ⟨G + 1, j, none⟩ (.int .i64 y)) (Below.heap_setCell _ _ _ _ (by show G ≠ G + 1; omega))
              have b11 := (b9.trans (b10.mono (by have := R1.lt; omega))).setCell (p := ⟨G + 1, j, none⟩) (by show G ≤ G + 1; omega) (.int .i64 y)
              clear R1 R2 R1' R2' b10 b9 Q8 Q9 hd hin
              go_wp2
              go_roundg (L - (j + 1))
              case measure => omega
              case rel => exact ⟨j + 1, by omega, by omega, by go_num, R4, R3, b11⟩
            · have hjl : L = j := by omega
              subst hjl
              have e2 : nextT t rs1 ds1 = T ∧ nextOk rs1 ds1 = ok := by
                have e0 := next_again t (lst n S) (lst2 m S' D)
                rw [HR.out.1, HR.out.2, HT.out.1, HT.out.2] at e0
                exact e0
              have e3 : due t ds1 = [] ∧ later t ds1 = ds1 := by
                have e0 := due_of_later t (lst2 m S' D)
                rw [HR.out.2] at e0
                exact e0
              have E3 : Hid (due t ds1 = [] ∧ later t ds1 = ds1) := e3
              have b8' : Below w6.heap.size w6 wr := by rw [HG.out]; exact b8
              have Q8 : QI 0 B wr rs1 ds1 [] rv1 dv1 bv := Q6.below b8'
              have N2 := zznext_any B t _ _ _ rv1 dv1 bv wr Q8 hrd ht HI1.out
              rw [e2.1, e2.2] at N2
              have HN2 := (show Hid _ from N2)
              have fw8 : Below B w2 wr := fw5.trans ((b6.mono (Nat.le_of_lt hB5)).trans (b8.mono (Nat.le_of_lt hBG)))
              have s8 := s3.below b8' s3.lt
              have lt6 : w5.heap.size ≤ G := by rw [← HG.out]; exact b6.size
              clear e2 e3 N2 hlt hjk hj s3 Q6 b8 b8' fw5 hh1
              go_wp2_with fail
              refine Calls.mono HN2.out ?_
              rintro e w9 ⟨rfl, A⟩
              obtain ⟨rv2, dv2, Q2, fr2, st2, hd2⟩ := A
              rw [E3.out.1, E3.out.2] at Q2
              simp only [List.map_nil, List.append_nil] at Q2
              have fw9 : Below B w2 w9 := fw8.trans (fr2.toBelow (fun k hk => by have := (Q8.r.lt k hk).1; omega) (Nat.le_of_lt Q8.q.lt))
              have s9 := s8.of_block fr2.size (fun k hk => fr2.block k (s8.lt k hk) (by have := g3 k hk; omega) (fun e => by have := hr5 k e; have := g3 k hk; omega))
              have P1' := P1.of_block (fr2.block G P1.lt (by omega) (fun e => by have := hr5 G e; omega))
              have P2' := P2.of_block (fr2.block (G + 1) P2.lt (by omega) (fun e => by have := hr5 (G + 1) e; omega))
              clear HN2 fr2 st2 hd2 P1 P2 Q8 s8 fw8 g3
              have hTT : (T != T) = false := by simp
              have hoo : (ok != ok) = false := by simp
              have hLL : ((L : Int) != (L : Int)) = false := by simp
              go_wp2_with fail
              refine (ready_any B rv2 dv2 bv _ Q2.q).mono ?_
              rintro e w9' ⟨rfl, hw9⟩; obtain rfl := hw9.symm
              go_wp2_with fail
              refine (equal_true _ _ _ _ _ (own_srow Q2.r) s9).mono ?_
              rintro e w11 ⟨rfl, b11⟩
              have Q11 := Q2.below b11
              have P1a := P1'.of_block (b11.block G P1'.lt)
              have P2a := P2'.of_block (b11.block (G + 1) P2'.lt)
              have fw11 : Below B w2 w11 := fw9.trans (b11.mono (Nat.le_of_lt Q2.q.lt))
              clear Q2 P1' P2' s9 b11 fw9
              go_wp2_with fail
              refine (dlen_any B _ _ _ _ _ _ _ Q11).mono ?_
              rintro e w11' ⟨rfl, hw11⟩; obtain rfl := hw11.symm
              rw [HL.out]
              go_wp2_with fail
              go_loopg [20] L (fun k i wr => ∃ j, j ≤ L ∧ L - j ≤ k ∧ i = .int .i64 (j : Nat) ∧ Below w11.heap.size w11 wr)
              case atStart => exact ⟨0, by omega, by omega, rfl, Below.refl _ _⟩
              case round =>
                rename_i wr2
                obtain ⟨j, hj, hjk, rfl, b12⟩ := hrel
                have Q12 := Q11.below b12
                by_cases hlt : j < L
                · obtain ⟨d, hd⟩ : ∃ d, ds1[j]? = some d := ⟨ds1[j]'(by rw [HL.out]; exact hlt), by simp⟩
                  obtain ⟨x, y⟩ := d
                  have hin := HI1.out (x, y) (List.mem_of_getElem? hd)
                  have e1 : ds1.getD j (ByteArray.empty, 0) = (x, y) := by rw [List.getD_eq_getElem?_getD, hd]; rfl
                  have k1 : wr.cell? ⟨G, j, none⟩ = some (.string x) := by
                    have := (P1a.of_block (b12.block G P1a.lt)).cell j hlt
                    rw [e1] at this
                    exact this
                  have k2 : wr.cell? ⟨G + 1, j, none⟩ = some (.int .i64 y) := by
                    have := (P2a.of_block (b12.block (G + 1) P2a.lt)).cell j hlt
                    rw [e1] at this
                    exact this
                  have lG : G + 1 < wr.heap.size := Nat.lt_of_lt_of_le P2a.lt b12.size
                  obtain ⟨ι, hι, F, hF, hF'⟩ := fam wr.heap.size wr
                  have q1 : ∀ x, (F x).cell? ⟨G, j, none⟩ = _ := fun x => ((hF x).cell (p := ⟨G, j, none⟩) (by show G < _; omega)).trans k1
                  have q2 : ∀ x, (F x).cell? ⟨G + 1, j, none⟩ = _ := fun x => ((hF x).cell (p := ⟨G + 1, j, none⟩) lG).trans k2
                  have hQx : Hid (∀ x, QI 0 B (F x) rs1 ds1 [] rv2 dv2 bv) := fun x => Q12.below (hF x)
                  have hyy : (y != y) = false := by simp
                  have HDJ : Hid (ds1[j]? = some (x, y)) := hd
                  clear e1 k1 k2 P1a P2a Q11 Q12 hd hh2 fw11
                  go_wp2_with fail
                  refine wp_region_family F (by kernel_rfl) (by kernel_rfl) (hF'.out _ (Below.refl _ _).drew) ?_
                  repeat (go_big_quiet_step ((first | (go_at_call 17; exact Calls.family hF hF' (Nat.le_refl _) ((did_any B _ _ _ _ _ _ _ (hQx.out _) j _ HDJ.out).mono fun e w' ⟨he, hw⟩ => ⟨he, hw ▸ Below.refl _ _⟩)) | (go_at_call 18; exact Calls.family hF hF' (Nat.le_refl _) (ddue_any B _ _ _ _ _ _ _ (hQx.out _) j _ HDJ.out hin)))))
                  refine wpQuiet_nil ?_
                  rintro _ ⟨z, rfl⟩
                  have hz := hF z
                  clear q1 q2 hF' hQx
                  generalize F z = wf at *
                  clear hF F
                  go_wp2
                  go_roundg (L - (j + 1))
                  case measure => omega
                  case rel => exact ⟨j + 1, by omega, by omega, by go_num, b12.trans (hz.mono b12.size)⟩
                · have fw12 : Below B w2 wr := fw11.trans (b12.mono (Nat.le_of_lt Q11.q.lt))
                  have hjl : L = j := by omega
                  subst hjl
                  clear P1a P2a Q11 b12 fw11 hlt hj hjk
                  cases ok
                  · obtain ⟨z1, z2, z3⟩ := zero_plain (t := t) HT.out.2
                    have hT0 : T = 0 := by rw [← HT.out.1, z1]
                    have hz : (n : Int) + (m : Int) ≤ 0 := by omega
                    have hzd : decide ((0 : Int) < (n : Int) + (m : Int)) = false := by simp; omega
                    clear z1 z2 z3 hh2 Q12
                    subst hT0
                    go_wp2
                    go_ret
                    exact ⟨rfl, bb.trans (fw12.mono bB)⟩
                  · have hT3 := next_third t (lst n S) (lst2 m S' D) HT.out.2
                    rw [HT.out.1, HR.out.1, HR.out.2] at hT3
                    have hTin : Inr T := by rw [← HT.out.1]; exact nextT_in t _ _ ht (lst2_in HD.out)
                    have N3 := zznext_any B T _ _ _ rv2 dv2 bv wr Q12 hrd hTin HI1.out
                    rw [hT3.1, hT3.2.1] at N3
                    have HN3 := (show Hid _ from N3)
                    have HL3 := (show Hid _ from hT3.2.2)
                    have hpos : 0 < n + m := by have := HT.out.2; rw [nextOk_len, lst_len, lst2_len] at this; simpa using this
                    have hpos' : (0 : Int) < (n : Int) + (m : Int) := by omega
                    have hposd : decide ((0 : Int) < (n : Int) + (m : Int)) = true := by simp; omega
                    have hlt12 := Q12.q.lt
                    have hrr : Hid (∀ k, rv2.ownBlock = some k → B < k) := fun k hk => by have := (Q12.r.lt k hk).1; omega
                    have hTe : (T == T) = true := by simp
                    have hE := early_plain (t := t) HT.out.2
                    rw [HT.out.1] at hE
                    clear hT3 N3 Q12
                    rcases hE with ⟨rfl, hn0⟩ | ⟨rfl, hn0, hm0, hD0⟩ | ⟨hn0, hm0, hD0, hTD⟩
                    · have hnd : decide ((0 : Int) < (n : Int)) = true := by simp; omega
                      clear hh2
                      go_wp2_with fail
                      refine Calls.mono HN3.out ?_
                      rintro e w13 ⟨rfl, A3⟩
                      obtain ⟨rv3, dv3, Q13, fr3, _, _⟩ := A3
                      have fw13 := fw12.trans (fr3.toBelow hrr.out (Nat.le_of_lt hlt12))
                      obtain ⟨aq, cq, hq3⟩ := form0 Q13.r
                      have hq := Q13.q
                      rw [hq3] at hq
                      have hlen := HL3.out
                      obtain ⟨N, hN⟩ : ∃ N, (rs1 ++ (due T ds1).map (·.1)).length = N := ⟨_, rfl⟩
                      rw [hN] at hlen hq
                      clear hN Q13 fr3 hq3
                      go_wp2_with fail
                      refine (ready_any B _ _ _ _ hq).mono ?_
                      rintro e w14 ⟨rfl, hw14⟩; obtain rfl := hw14.symm
                      clear hq
                      go_wp2
                      go_ret
                      exact ⟨rfl, bb.trans (fw13.mono bB)⟩
                    · have hnd : decide ((0 : Int) < (n : Int)) = false := by simp; omega
                      have hmd : decide ((0 : Int) < (m : Int)) = true := by simp; omega
                      rcases hh2.2.2 with ⟨_, h0, _⟩ | ⟨b, off, rfl, hb, hc⟩
                      · omega
                      have hcy : wr.cell? ⟨b, off + 1, none⟩ = some (.int .i64 (D 0)) := by
                        have h1 := (hc 0 hm0).2
                        rw [Nat.zero_mul, Nat.add_zero] at h1
                        exact (fw12.cell (p := ⟨b, off + 1, none⟩) (p2lt b rfl)).trans h1
                      have hc2 : m ≤ c2 ∧ c2 ≤ 9223372036854775807 := ⟨hh2.1, by have := hh2.2.1; unfold maxLen at this; omega⟩
                      obtain ⟨y, hy⟩ : ∃ y, D 0 = y := ⟨_, rfl⟩
                      rw [hy] at hcy hD0
                      have hyd : decide (y ≤ T) = true := by simpa using hD0
                      clear hh2 hc hy hnd
                      subst hn0
                      go_wp2_with fail
                      refine Calls.mono HN3.out ?_
                      rintro e w13 ⟨rfl, A3⟩
                      obtain ⟨rv3, dv3, Q13, fr3, _, _⟩ := A3
                      have fw13 := fw12.trans (fr3.toBelow hrr.out (Nat.le_of_lt hlt12))
                      obtain ⟨aq, cq, hq3⟩ := form0 Q13.r
                      have hq := Q13.q
                      rw [hq3] at hq
                      have hlen := HL3.out
                      obtain ⟨N, hN⟩ : ∃ N, (rs1 ++ (due T ds1).map (·.1)).length = N := ⟨_, rfl⟩
                      rw [hN] at hlen hq
                      clear hN Q13 fr3 hq3
                      go_wp2_with fail
                      refine (ready_any B _ _ _ _ hq).mono ?_
                      rintro e w14 ⟨rfl, hw14⟩; obtain rfl := hw14.symm
                      clear hq
                      go_wp2
                      go_ret
                      exact ⟨rfl, bb.trans (fw13.mono bB)⟩
                    · have hnd : decide ((0 : Int) < (n : Int)) = false := by simp; omega
                      have hmd : decide ((0 : Int) < (m : Int)) = true := by simp; omega
                      rcases hh2.2.2 with ⟨_, h0, _⟩ | ⟨b, off, rfl, hb, hc⟩
                      · omega
                      have hcy : wr.cell? ⟨b, off + 1, none⟩ = some (.int .i64 (D 0)) := by
                        have h1 := (hc 0 hm0).2
                        rw [Nat.zero_mul, Nat.add_zero] at h1
                        exact (fw12.cell (p := ⟨b, off + 1, none⟩) (p2lt b rfl)).trans h1
                      have hc2 : m ≤ c2 ∧ c2 ≤ 9223372036854775807 := ⟨hh2.1, by have := hh2.2.1; unfold maxLen at this; omega⟩
                      rw [← hTD] at hcy hD0
                      have hyd : decide (T ≤ t) = false := by simp; omega
                      have hye : (T == t) = false := by simp; omega
                      clear hh2 hc hTD hnd
                      subst hn0
                      go_wp2_with fail
                      refine Calls.mono HN3.out ?_
                      rintro e w13 ⟨rfl, A3⟩
                      obtain ⟨rv3, dv3, Q13, fr3, _, _⟩ := A3
                      have fw13 := fw12.trans (fr3.toBelow hrr.out (Nat.le_of_lt hlt12))
                      obtain ⟨aq, cq, hq3⟩ := form0 Q13.r
                      have hq := Q13.q
                      rw [hq3] at hq
                      have hlen := HL3.out
                      obtain ⟨N, hN⟩ : ∃ N, (rs1 ++ (due T ds1).map (·.1)).length = N := ⟨_, rfl⟩
                      rw [hN] at hlen hq
                      clear hN Q13 fr3 hq3
                      go_wp2_with fail
                      refine (ready_any B _ _ _ _ hq).mono ?_
                      rintro e w14 ⟨rfl, hw14⟩; obtain rfl := hw14.symm
                      clear hq
                      go_wp2
                      go_ret
                      exact ⟨rfl, bb.trans (fw13.mono bB)⟩

end Go.Proofs.Qxb6605917a
