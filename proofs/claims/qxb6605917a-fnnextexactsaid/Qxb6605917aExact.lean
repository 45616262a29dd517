import Derived.Test.Qxb6605917aEPlain
import Derived.Test.Qxb6605917aBytesE
import Derived.Deep.DeepCutAuto
namespace Go.Proofs.Qxb6605917a
open Go.RowKit
set_option linter.unusedVariables false
set_option linter.unusedSimpArgs false

theorem did_at {m : Int} (B : Nat) (rs bs : List ByteArray) (ds : List (ByteArray × Int)) (rv dv bv : Value) (w : World) (h : QI m B w rs ds bs rv dv bv) (q : Int) (i : Nat) (hq : q = i) (d : ByteArray × Int) (hi : ds[i]? = some d) :
    Calls Try.prog 17 #[.pointer (some ⟨B, 0, none⟩), .int .i64 q] w fun e w' => e = .returned (.string d.1) ∧ w' = w := by
  rw [hq]; exact did_any B rs bs ds rv dv bv w h i d hi
theorem ddue_at {m : Int} (B : Nat) (rs bs : List ByteArray) (ds : List (ByteArray × Int)) (rv dv bv : Value) (w : World) (h : QI m B w rs ds bs rv dv bv) (q : Int) (i : Nat) (hq : q = i) (d : ByteArray × Int) (hi : ds[i]? = some d) (hin : Inr d.2) :
    Calls Try.prog 18 #[.pointer (some ⟨B, 0, none⟩), .int .i64 q] w fun e w' => e = .returned (.int .i64 d.2) ∧ Below w.heap.size w w' := by
  rw [hq]; exact ddue_any B rs bs ds rv dv bv w h i d hi hin
theorem SRow.congr {w : World} {v : Value} {n : Nat} {S T : Nat → ByteArray} (h : SRow w v n S) (e : ∀ i, i < n → S i = T i) : SRow w v n T := by
  obtain ⟨ao, cap, rfl, h1, h2, h3⟩ := h
  refine ⟨ao, cap, rfl, h1, h2, ?_⟩
  rcases h3 with h3 | ⟨b, off, rfl, hlt, hc⟩
  · exact .inl h3
  · exact .inr ⟨b, off, rfl, hlt, fun i hi => by rw [← e i hi]; exact hc i hi⟩
theorem lst_getD (l : Nat) (S : Nat → ByteArray) (i : Nat) (h : i < l) : (lst l S).getD i ByteArray.empty = S i := by simp [lst, h]
theorem zero_plain {t : Int} {n m : Nat} {S S' : Nat → ByteArray} {D : Nat → Int} (h : nextOk (lst n S) (lst2 m S' D) = false) : nextT t (lst n S) (lst2 m S' D) = 0 ∧ n = 0 ∧ m = 0 := by
  rw [nextOk_len, lst_len, lst2_len] at h
  have h1 : n = 0 ∧ m = 0 := by simp at h; omega
  refine ⟨?_, h1⟩
  rw [h1.1, h1.2]
  rfl
theorem Fr.toBelow {B : Nat} {rv : Value} {w w' : World} (h : Fr B rv w w') (hr : ∀ k, rv.ownBlock = some k → B < k) (hB : B ≤ w.heap.size) : Below B w w' :=
  ⟨h.os, h.tape, h.output, h.size, fun k hk => h.block k (by omega) (by omega) (fun e => by have := hr k e; omega)⟩
theorem below_drewN {B : Nat} {w wr : World} (h : Below B w wr) (q : Nat) : Below B w (wr.drewN q) := h.trans ⟨rfl, rfl, rfl, Nat.le_refl _, fun _ _ => rfl⟩

set_option maxRecDepth 100000 in
set_option maxHeartbeats 8000000 in
theorem exact_any (v v' v2 : Value) (n m l : Nat) (t : Int) (S S' S2 : Nat → ByteArray) (D : Nat → Int) (w : World) (h : SIn w v n S) (h' : PIn w v' m S' D) (h2 : SIn w v2 l S2) (ht : Inr t) (hD : ∀ i, i < m → Inr (D i)) :
    Calls Try.prog 3 #[v, v', v2, .int .i64 t] w fun e w' => e = .returned (.bool true) ∧ Below w.heap.size w w' := by
  have HD : Hid (∀ i, i < m → Inr (D i)) := hD
  clear hD
  obtain ⟨ao, cap, rfl, hr⟩ := id h
  obtain ⟨bo, cap', rfl, hr'⟩ := id h'
  obtain ⟨co, capc, rfl, hr2⟩ := id h2
  have hn63 : n ≤ 9223372036854775807 := by have := hr.1; have := hr.2.1; unfold maxLen at this; omega
  have hm63 : m ≤ 9223372036854775807 := by have := hr'.1; have := hr'.2.1; unfold maxLen at this; omega
  have hl63 : l ≤ 9223372036854775807 := by have := hr2.1; have := hr2.2.1; unfold maxLen at this; omega
  clear hr hr2
  go_enter Try.func3, Try.ntmps3
  go_wp2_with fail
  refine (bytesE_any _ _ _ n m l t S S' S2 D _ h h' h2).mono ?_
  rintro e w1 ⟨⟨b, rfl⟩, hw1⟩; obtain rfl := hw1.symm
  cases b
  · go_wp2
    go_ret
    exact ⟨rfl, Below.refl _ _⟩
  go_wp2_with fail
  refine (addBytes_any _ _ n S _ h).mono ?_
  rintro e w1 ⟨⟨r1, rfl⟩, hw1⟩; obtain rfl := hw1.symm
  go_wp2_with fail
  refine (addBytes_any _ _ l S2 _ h2).mono ?_
  rintro e w1 ⟨⟨r2, rfl⟩, hw1⟩; obtain rfl := hw1.symm
  go_wp2_with fail
  refine (addDeferralBytes_any _ _ m S' D _ h').mono ?_
  rintro e w1 ⟨⟨r3, rfl⟩, hw1⟩; obtain rfl := hw1.symm
  by_cases hr3 : 1048576 < r3
  · go_wp2
    go_ret
    exact ⟨rfl, Below.refl _ _⟩
  by_cases hn : 4096 < n
  · have hd : decide (4096 < (n : Int)) = true := by simp; omega
    go_wp2
    go_ret
    exact ⟨rfl, Below.refl _ _⟩
  by_cases hm : 4096 < m
  · have hd : decide (4096 < (m : Int)) = true := by simp; omega
    go_wp2
    go_ret
    exact ⟨rfl, Below.refl _ _⟩
  by_cases hl : 4096 < l
  · go_wp2
    go_ret
    exact ⟨rfl, Below.refl _ _⟩
  go_wp2
  go_loopg [10] m (fun k i wr => ∃ j : Nat, (j + 1 ≤ m ∨ j = 0) ∧ m - j ≤ k ∧ i = .int .i64 ((j : Int) + 1) ∧ Hid (∀ i, i < j → D i ≤ D (i + 1)) ∧ Below w.heap.size w wr)
  case atStart => exact ⟨0, .inr rfl, by omega, rfl, fun i hi => by omega, Below.refl _ _⟩
  case round =>
    obtain ⟨j, hj, hjk, rfl, HS, bw0⟩ := hrel
    by_cases hlt : j + 1 < m
    · rcases hr'.2.2 with h0 | ⟨b, off, rfl, hb, hc⟩
      · omega
      have hcx : wr.cell? ⟨b, off + (j + 1) * 2 + 1, none⟩ = some (.int .i64 (D (j + 1))) := (bw0.cell (p := ⟨b, off + (j + 1) * 2 + 1, none⟩) hb).trans (hc (j + 1) hlt).2
      have hcy : wr.cell? ⟨b, off + j * 2 + 1, none⟩ = some (.int .i64 (D j)) := (bw0.cell (p := ⟨b, off + j * 2 + 1, none⟩) hb).trans (hc j (by omega)).2
      have hc2 : m ≤ cap' ∧ cap' ≤ 9223372036854775807 := ⟨hr'.1, by have := hr'.2.1; unfold maxLen at this; omega⟩
      obtain ⟨x, hx⟩ : ∃ x, D (j + 1) = x := ⟨_, rfl⟩
      obtain ⟨y, hy⟩ : ∃ y, D j = y := ⟨_, rfl⟩
      rw [hx] at hcx
      rw [hy] at hcy
      have HX : Hid (D (j + 1) = x ∧ D j = y) := ⟨hx, hy⟩
      clear hx hy hc hr' h h' h2
      by_cases hxy : x < y
      · have hxd : decide (x < y) = true := by simpa using hxy
        go_wp2
        go_quiet (fail)
        go_wp2
        go_ret
        exact ⟨rfl, below_drewN bw0 _⟩
      · have hxd : decide (x < y) = false := by simpa using hxy
        go_wp2
        go_quiet (fail)
        go_wp2
        go_roundg (m - (j + 1))
        case measure => omega
        case rel => exact ⟨j + 1, .inl (by omega), by omega, by go_num, fun i hi => (by by_cases e : i = j; (rw [e, HX.out.1, HX.out.2]; omega); exact HS.out i (by omega)), below_drewN bw0 _⟩
    · have hsort : Hid (∀ i, i + 1 < m → D i ≤ D (i + 1)) := fun i hi => HS.out i (by omega)
      clear HS hr'
      go_wp2_with fail
      refine (clone_any _ n S _ (h.below bw0) (by omega)).mono ?_
      rintro e w1 ⟨v1, rfl, s1, b1, g1⟩
      have bw1 := bw0.trans (b1.mono bw0.size)
      go_wp2_with fail
      refine (cloneDeferrals_any _ m S' D _ (h'.below bw1) (by omega)).mono ?_
      rintro e w2 ⟨v2, rfl, p2, b2, g2⟩
      have bw2 := bw1.trans (b2.mono bw1.size)
      have s2 := s1.below b2 s1.lt
      go_wp2_with fail
      refine (clone_any _ l S2 _ (h2.below bw2) (by omega)).mono ?_
      rintro e w3 ⟨v3, rfl, s3, b3, g3⟩
      have bb := bw2.trans (b3.mono bw2.size)
      have s1 := s2.below b3 s2.lt
      have p2 := p2.below b3 p2.lt
      clear h h' h2 b1 b2 b3 g1 g2 g3 bw0 bw1 bw2 s2
      go_wp2_with fail
      refine (newQueue_any _).mono ?_
      rintro e w4 ⟨rfl, hw4⟩
      have qp : QP w3.heap.size w4 (lst 0 S) (lst2 0 S' D) (lst 0 S2) := by rw [hw4]; exact qp_start w3
      have b4 : Below w3.heap.size w3 w4 := by rw [hw4]; exact (Below.refl _ _).alloc (Nat.le_refl _) _
      have s1lt := s1.lt
      have p2lt := p2.lt
      have s3lt := s3.lt
      clear hw4
      generalize hB : w3.heap.size = B at *
      have bB : w.heap.size ≤ B := by have := bb.size; omega
      obtain ⟨xo, c1, hv1, hh1⟩ := id s1
      obtain ⟨yo, c2, hv2, hh2⟩ := id p2
      obtain ⟨zo, c3, hv3, hh3⟩ := id s3
      subst hv1
      subst hv2
      subst hv3
      clear hB
      go_wp2
      go_loopg [12] n (fun k i wr => ∃ j, j ≤ n ∧ n - j ≤ k ∧ i = .int .i64 (j : Nat) ∧ QP B wr (lst j S) (lst2 0 S' D) (lst 0 S2) ∧ Below B w3 wr)
      case atStart => exact ⟨0, by omega, by omega, rfl, qp, b4⟩
      case round =>
        clear hlt hj hjk
        rename_i wra
        obtain ⟨j, hj, hjk, rfl, Q, bw⟩ := hrel
        by_cases hlt : j < n
        · obtain ⟨x, hx⟩ : ∃ x, S j = x := ⟨_, rfl⟩
          rcases hh1.2.2 with ⟨_, h0, _⟩ | ⟨b, off, rfl, hb, hc⟩
          · omega
          have hcx : wr.cell? ⟨b, off + j, none⟩ = _ := (bw.cell (p := ⟨b, off + j, none⟩) (s1lt b rfl)).trans (hc j hlt)
          rw [hx] at hcx
          have HX : Hid (S j = x) := hx
          clear hx hh1 hh2 hh3 hc
          go_wp2_with fail
          refine (pushReady_any B x _ _ _ _ Q (by rw [lst_len]; omega)).mono ?_
          rintro e w5 ⟨rfl, Q4, b4⟩
          go_wp2
          go_roundg (n - (j + 1))
          case measure => omega
          case rel => exact ⟨j + 1, by omega, by omega, by go_num, by rw [lst_succ, HX.out]; exact Q4, bw.trans b4⟩
        · have hjn : n = j := by omega
          subst hjn
          clear hlt hjk hj qp b4
          go_wp2
          go_loopg [13] m (fun k i wr => ∃ j, j ≤ m ∧ m - j ≤ k ∧ i = .int .i64 (j : Nat) ∧ QP B wr (lst n S) (lst2 j S' D) (lst 0 S2) ∧ Below B w3 wr)
          case atStart => exact ⟨0, by omega, by omega, rfl, Q, bw⟩
          case round =>
            clear Q bw
            rename_i wr0
            obtain ⟨j, hj, hjk, rfl, Q, bw⟩ := hrel
            by_cases hlt : j < m
            · obtain ⟨x, hx⟩ : ∃ x, S' j = x := ⟨_, rfl⟩
              obtain ⟨y, hy⟩ : ∃ y, D j = y := ⟨_, rfl⟩
              have hin := HD.out j hlt
              rcases hh2.2.2 with ⟨_, h0, _⟩ | ⟨b, off, rfl, hb, hc⟩
              · omega
              have hcx : wr.cell? ⟨b, off + j * 2, none⟩ = _ := (bw.cell (p := ⟨b, off + j * 2, none⟩) (p2lt b rfl)).trans (hc j hlt).1
              have hcy : wr.cell? ⟨b, off + j * 2 + 1, none⟩ = _ := (bw.cell (p := ⟨b, off + j * 2 + 1, none⟩) (p2lt b rfl)).trans (hc j hlt).2
              rw [hx] at hcx
              rw [hy] at hcy hin
              have HX : Hid (S' j = x ∧ D j = y) := ⟨hx, hy⟩
              have hc2 : m ≤ c2 ∧ c2 ≤ 9223372036854775807 := ⟨hh2.1, by have := hh2.2.1; unfold maxLen at this; omega⟩
              clear hx hy hh1 hh2 hh3 hc
              have Qd : QP B wr.drew (lst n S) (lst2 j S' D) (lst 0 S2) := Q
              go_wp2
              go_region_law (first
                | (go_simp; go_at_call 12; refine (pushDeferred_any B x y _ _ _ wr.drew Qd (by rw [lst2_len]; omega) hin.1 hin.2).mono ?_; rintro e w5 ⟨rfl, Q4, b4⟩))
              all_goals
                go_wp2
                go_roundg (m - (j + 1))
                case measure => omega
                case rel => exact ⟨j + 1, by omega, by omega, by go_num, by rw [lst2_succ, HX.out.1, HX.out.2]; exact Q4, bw.trans ((Below.refl _ _).drew.trans b4)⟩
            · have hjm : m = j := by omega
              subst hjm
              clear hlt hjk hj
              go_wp2
              go_loopg [14] l (fun k i wr => ∃ j, j ≤ l ∧ l - j ≤ k ∧ i = .int .i64 (j : Nat) ∧ QP B wr (lst n S) (lst2 m S' D) (lst j S2) ∧ Below B w3 wr)
              case atStart => exact ⟨0, by omega, by omega, rfl, Q, bw⟩
              case round =>
                clear Q bw
                rename_i wr1
                obtain ⟨j, hj, hjk, rfl, Q, bw⟩ := hrel
                by_cases hlt : j < l
                · obtain ⟨x, hx⟩ : ∃ x, S2 j = x := ⟨_, rfl⟩
                  rcases hh3.2.2 with ⟨_, h0, _⟩ | ⟨b, off, rfl, hb, hc⟩
                  · omega
                  have hcx : wr.cell? ⟨b, off + j, none⟩ = _ := (bw.cell (p := ⟨b, off + j, none⟩) (s3lt b rfl)).trans (hc j hlt)
                  rw [hx] at hcx
                  have HX : Hid (S2 j = x) := hx
                  clear hx hh1 hh2 hh3 hc
                  go_wp2_with fail
                  refine (pushBusy_any B x _ _ _ _ Q (by rw [lst_len]; omega)).mono ?_
                  rintro e w5 ⟨rfl, Q4, b4⟩
                  go_wp2
                  go_roundg (l - (j + 1))
                  case measure => omega
                  case rel => exact ⟨j + 1, by omega, by omega, by go_num, by rw [lst_succ, HX.out]; exact Q4, bw.trans b4⟩
                · have hjl : l = j := by omega
                  subst hjl
                  clear hlt hjk hj
                  have d0len : (lst n S).length + (lst2 m S' D).length ≤ 1048576 := by rw [lst_len, lst2_len]; omega
                  have hall := lst2_in (S := S') HD.out
                  obtain ⟨rv, dv, bv, I⟩ := Q.toI
                  obtain ⟨T, hT⟩ : ∃ T, nextT t (lst n S) (lst2 m S' D) = T := ⟨_, rfl⟩
                  obtain ⟨ok, hok⟩ : ∃ ok, nextOk (lst n S) (lst2 m S' D) = ok := ⟨_, rfl⟩
                  have N1 := zznext_any B t _ _ _ rv dv bv wr I d0len ht hall
                  rw [hT, hok] at N1
                  have HT : Hid (nextT t (lst n S) (lst2 m S' D) = T ∧ nextOk (lst n S) (lst2 m S' D) = ok) := ⟨hT, hok⟩
                  have HN := (show Hid _ from N1)
                  have HI := (show Hid _ from hall)
                  clear hT hok N1 hall
                  go_wp2_with fail
                  refine Calls.mono HN.out ?_
                  rintro e w5 ⟨rfl, A⟩
                  obtain ⟨rv1, dv1, Q1, fr1, st1, hd1⟩ := A
                  have fw5 : Below B w3 w5 := bw.trans (fr1.toBelow (fun k hk => by have := (I.r.lt k hk).1; omega) (Nat.le_of_lt I.q.lt))
                  have kl := rdy_len t n m S S' D
                  have kl2 := later_len t m S' D
                  have klow := rdy_low t n m S S' D
                  have khigh := rdy_high t n m S S' D
                  have kat := later_at t m S' D
                  have kiff := cnt_iff t m S' D hsort.out
                  have kle := cnt_le t m S' D
                  have kwn := want_now t n m S S' D
                  have kwl := want_later t n m S S' D
                  generalize lst n S ++ (due t (lst2 m S' D)).map (·.1) = rs1 at Q1 kl klow khigh
                  generalize later t (lst2 m S' D) = ds1 at Q1 kl2 kat
                  generalize cnt t m S' D = K at *
                  rw [HT.out.1, HT.out.2] at kwn kwl
                  have HK : Hid (rs1.length = n + K ∧ ds1.length = m - K ∧ (∀ i, i < n → rs1.getD i ByteArray.empty = S i) ∧ (∀ i, i < K → rs1.getD (n + i) ByteArray.empty = S' i) ∧ (∀ i, K + i < m → ds1[i]? = some (S' (K + i), D (K + i))) ∧ (∀ i, i < m → (D i ≤ t ↔ i < K))) := ⟨kl, kl2, klow, khigh, kat, kiff⟩
                  have HW : Hid ((0 < n + K → T = t ∧ ok = true) ∧ (n + K = 0 → 0 < m → T = D 0 ∧ ok = true) ∧ (n + K = 0 → m = 0 → T = 0 ∧ ok = false)) := by
                    refine ⟨kwn, kwl, fun h1 h2 => ?_⟩
                    have h3 : nextOk (lst n S) (lst2 m S' D) = false := by rw [nextOk_len, lst_len, lst2_len]; simp; omega
                    have h4 := (zero_plain (t := t) h3).1
                    rw [HT.out.1] at h4
                    rw [HT.out.2] at h3
                    exact ⟨h4, h3⟩
                  clear kl kl2 klow khigh kat kiff kwn kwl HN HI I Q fr1 st1 hd1 d0len bw
                  go_wp2
                  go_loopg [17, 18] m (fun k q i wr => ∃ j p : Nat, j ≤ m ∧ m - j ≤ k ∧ i = .int .i64 (j : Nat) ∧ q = .int .i64 (p : Nat) ∧ p ≤ j ∧ Hid (p = min j K) ∧ wr = w5)
                  case atStart => exact ⟨0, 0, by omega, by omega, rfl, rfl, by omega, (by show 0 = min 0 K; omega), rfl⟩
                  case round =>
                    rename_i wr2
                    obtain ⟨j, q, hj, hjk, rfl, rfl, hqj, HQ, hwr⟩ := hrel
                    obtain rfl := hwr.symm
                    by_cases hlt : j < m
                    · obtain ⟨y, hy⟩ : ∃ y, D j = y := ⟨_, rfl⟩
                      rcases hh2.2.2 with ⟨_, h0, _⟩ | ⟨b, off, rfl, hb, hc⟩
                      · omega
                      have hcy : w5.cell? ⟨b, off + j * 2 + 1, none⟩ = _ := (fw5.cell (p := ⟨b, off + j * 2 + 1, none⟩) (p2lt b rfl)).trans (hc j hlt).2
                      rw [hy] at hcy
                      have hc2 : m ≤ c2 ∧ c2 ≤ 9223372036854775807 := ⟨hh2.1, by have := hh2.2.1; unfold maxLen at this; omega⟩
                      have hif := HK.out.2.2.2.2.2 j hlt
                      rw [hy] at hif
                      clear hy hh1 hh2 hh3 hc
                      by_cases hyt : y ≤ t
                      · have hyd : decide (y ≤ t) = true := by simpa using hyt
                        have hjK := hif.1 hyt
                        have hq := HQ.out
                        have hq1 : Hid (q + 1 = min (j + 1) K) := by show _ = _; omega
                        clear hif hq
                        go_wp2
                        go_roundg (m - (j + 1))
                        case measure => omega
                        case rel => exact ⟨j + 1, q + 1, by omega, by omega, by go_num, by go_num, by omega, hq1, rfl⟩
                      · have hyd : decide (y ≤ t) = false := by simpa using hyt
                        have hjK : ¬ j < K := fun h => hyt (hif.2 h)
                        have hq := HQ.out
                        have hq1 : Hid (q = min (j + 1) K) := by show _ = _; omega
                        clear hif hq
                        go_wp2
                        go_roundg (m - (j + 1))
                        case measure => omega
                        case rel => exact ⟨j + 1, q, by omega, by omega, by go_num, rfl, by omega, hq1, rfl⟩
                    · have hjm : m = j := by omega
                      subst hjm
                      have hqK : K = q := by have := HQ.out; omega
                      subst hqK
                      clear hlt hj hjk hqj HQ
                      go_upto_if 146 with fail
                      go_cut [19, 20] (fun a b wx => a = .int .i64 T ∧ b = .bool ok ∧ w5 = wx)
                      case first =>
                        by_cases hpos : 0 < n + K
                        · obtain ⟨e1, e2⟩ := HW.out.1 hpos
                          have hposd : decide ((0 : Int) < (n : Int) + (K : Int)) = true := by simp; omega
                          have HE : Hid (T = t ∧ ok = true) := ⟨e1, e2⟩
                          clear e1 e2 hh1 hh2 hh3
                          go_wp2
                          go_meet
                          case rel => exact ⟨by rw [HE.out.1], by rw [HE.out.2], rfl⟩
                        · have hposd : decide ((0 : Int) < (n : Int) + (K : Int)) = false := by simp; omega
                          by_cases hm0 : 0 < m
                          · obtain ⟨e1, e2⟩ := HW.out.2.1 (by omega) hm0
                            have HE : Hid (T = D 0 ∧ ok = true) := ⟨e1, e2⟩
                            have hmd : decide ((0 : Int) < (m : Int)) = true := by simp; omega
                            rcases hh2.2.2 with ⟨_, h0, _⟩ | ⟨b, off, rfl, hb, hc⟩
                            · omega
                            have hcy : w5.cell? ⟨b, off + 1, none⟩ = some (.int .i64 (D 0)) := by
                              have h1 := (hc 0 hm0).2
                              rw [Nat.zero_mul, Nat.add_zero] at h1
                              exact (fw5.cell (p := ⟨b, off + 1, none⟩) (p2lt b rfl)).trans h1
                            have hc2 : m ≤ c2 ∧ c2 ≤ 9223372036854775807 := ⟨hh2.1, by have := hh2.2.1; unfold maxLen at this; omega⟩
                            clear e1 e2 hh1 hh2 hh3 hc
                            go_wp2
                            go_meet
                            case rel => exact ⟨by rw [HE.out.1], by rw [HE.out.2], rfl⟩
                          · obtain ⟨e1, e2⟩ := HW.out.2.2 (by omega) (by omega)
                            have HE : Hid (T = 0 ∧ ok = false) := ⟨e1, e2⟩
                            have hmd : decide ((0 : Int) < (m : Int)) = false := by simp; omega
                            clear e1 e2 hh1 hh2 hh3
                            go_wp2
                            go_meet
                            case rel => exact ⟨by rw [HE.out.1], by rw [HE.out.2], rfl⟩
                      case rest =>
                        obtain ⟨rfl, rfl, rfl⟩ := hcut
                        have hTT : (T != T) = false := by simp
                        have hoo : (ok != ok) = false := by simp
                        have sr := own_srow Q1.r
                        obtain ⟨qo, qc, hq3, hq4⟩ := id sr
                        obtain ⟨N, hN⟩ : ∃ N, rs1.length = N := ⟨_, rfl⟩
                        have hNK : N = n + K := by rw [← hN]; exact HK.out.1
                        rw [hN] at hq3 hq4
                        have hNN : ((N : Int) != (n : Int) + (K : Int)) = false := by simp; omega
                        have hN1 : (N : Int) ≤ (n : Int) + (K : Int) := by omega
                        have hN2 : (n : Int) + (K : Int) ≤ (N : Int) := by omega
                        have HN1 : Hid (N = n + K) := hNK
                        clear hN hNK sr
                        go_wp2_with fail
                        refine (ready_any B rv1 dv1 bv _ Q1.q).mono ?_
                        rintro e w6 ⟨rfl, hw6⟩; obtain rfl := hw6.symm
                        rw [hq3]
                        go_wp2
                        go_loopg [22] n (fun k i wx => ∃ j, j ≤ n ∧ n - j ≤ k ∧ i = .int .i64 (j : Nat) ∧ Below w5.heap.size w5 wx)
                        case atStart => exact ⟨0, by omega, by omega, rfl, Below.refl _ _⟩
                        case round =>
                          rename_i wr3
                          obtain ⟨j, hj, hjk, rfl, bx⟩ := hrel
                          by_cases hlt : j < n
                          · obtain ⟨x, hx⟩ : ∃ x, S j = x := ⟨_, rfl⟩
                            rcases hh1.2.2 with ⟨_, h0, _⟩ | ⟨b, off, rfl, hb, hc⟩
                            · omega
                            rcases hq4.2.2 with ⟨_, h0, _⟩ | ⟨b', off', rfl, hb', hc'⟩
                            · omega
                            have k1 := (bx.cell (p := ⟨b, off + j, none⟩) (by have := s1lt b rfl; have := Q1.q.lt; show b < _; omega)).trans ((fw5.cell (p := ⟨b, off + j, none⟩) (s1lt b rfl)).trans (hc j hlt))
                            have k2 := (bx.cell (p := ⟨b', off' + j, none⟩) hb').trans (hc' j (by omega))
                            rw [hx] at k1
                            rw [HK.out.2.2.1 j hlt, hx] at k2
                            have hc1 : n ≤ c1 ∧ c1 ≤ 9223372036854775807 := ⟨hh1.1, by have := hh1.2.1; unfold maxLen at this; omega⟩
                            have hc1' : N ≤ qc ∧ qc ≤ 9223372036854775807 := ⟨hq4.1, by have := hq4.2.1; unfold maxLen at this; omega⟩
                            have hjN : j < N := by omega
                            clear hx hh1 hh2 hh3 hc hc' hq4 Q1
                            go_wp2
                            go_quiet (fail)
                            go_wp2
                            go_roundg (n - (j + 1))
                            case measure => omega
                            case rel => exact ⟨j + 1, by omega, by omega, by go_num, below_drewN bx _⟩
                          · have hjn : n = j := by omega
                            subst hjn
                            clear hlt hj hjk
                            go_wp2
                            go_loopg [23] K (fun k i wx => ∃ j, j ≤ K ∧ K - j ≤ k ∧ i = .int .i64 (j : Nat) ∧ Below w5.heap.size w5 wx)
                            case atStart => exact ⟨0, by omega, by omega, rfl, bx⟩
                            case round =>
                              clear bx
                              rename_i wr4
                              obtain ⟨j, hj, hjk, rfl, bx⟩ := hrel
                              by_cases hlt : j < K
                              · obtain ⟨x, hx⟩ : ∃ x, S' j = x := ⟨_, rfl⟩
                                rcases hh2.2.2 with ⟨_, h0, _⟩ | ⟨b, off, rfl, hb, hc⟩
                                · omega
                                rcases hq4.2.2 with ⟨_, h0, _⟩ | ⟨b', off', rfl, hb', hc'⟩
                                · omega
                                have k1 := (bx.cell (p := ⟨b, off + j * 2, none⟩) (by have := p2lt b rfl; have := Q1.q.lt; show b < _; omega)).trans ((fw5.cell (p := ⟨b, off + j * 2, none⟩) (p2lt b rfl)).trans (hc j (by omega)).1)
                                have k2 := (bx.cell (p := ⟨b', off' + (n + j), none⟩) hb').trans (hc' (n + j) (by omega))
                                rw [hx] at k1
                                rw [HK.out.2.2.2.1 j hlt, hx] at k2
                                have hc1 : m ≤ c2 ∧ c2 ≤ 9223372036854775807 := ⟨hh2.1, by have := hh2.2.1; unfold maxLen at this; omega⟩
                                have hc1' : N ≤ qc ∧ qc ≤ 9223372036854775807 := ⟨hq4.1, by have := hq4.2.1; unfold maxLen at this; omega⟩
                                have hjN : n + j < N := by omega
                                have hjm : j < m := by omega
                                clear hx hh1 hh2 hh3 hc hc' hq4 Q1
                                go_wp2
                                go_quiet (fail)
                                go_wp2
                                go_roundg (K - (j + 1))
                                case measure => omega
                                case rel => exact ⟨j + 1, by omega, by omega, by go_num, below_drewN bx _⟩
                              · have hjn : K = j := by omega
                                subst hjn
                                clear hlt hj hjk hq4
                                have Q7 := Q1.below bx
                                have fw7 := fw5.trans (bx.mono (Nat.le_of_lt Q1.q.lt))
                                clear Q1 fw5
                                go_wp2_with fail
                                refine (dlen_any B _ _ _ _ _ _ _ Q7).mono ?_
                                rintro e w7 ⟨rfl, hw7⟩; obtain rfl := hw7.symm
                                obtain ⟨w7, hw7'⟩ : ∃ w7, w7 = wr := ⟨_, rfl⟩
                                subst hw7'
                                rw [HK.out.2.1]
                                obtain ⟨M, hM⟩ : ∃ M, m - K = M := ⟨_, rfl⟩
                                rw [hM]
                                have hMM : ((M : Int) != (m : Int) - (K : Int)) = false := by simp; omega
                                clear hM
                                go_wp2
                                go_loopg [24] m (fun k i wx => ∃ j : Nat, K + j ≤ m ∧ m - (K + j) ≤ k ∧ i = .int .i64 ((K : Int) + (j : Int)) ∧ Below w7.heap.size w7 wx)
                                case atStart => exact ⟨0, by omega, by omega, by go_num, Below.refl _ _⟩
                                case round =>
                                  rename_i wr5
                                  obtain ⟨j, hj, hjk, rfl, by8⟩ := hrel
                                  have Q8 := Q7.below by8
                                  by_cases hlt : K + j < m
                                  · have hd := HK.out.2.2.2.2.1 j hlt
                                    have hin := HD.out (K + j) hlt
                                    rcases hh2.2.2 with ⟨_, h0, _⟩ | ⟨b, off, rfl, hb, hc⟩
                                    · omega
                                    have k1 := (by8.cell (p := ⟨b, off + (K + j) * 2, none⟩) (by have := p2lt b rfl; have := Q7.q.lt; show b < _; omega)).trans ((fw7.cell (p := ⟨b, off + (K + j) * 2, none⟩) (p2lt b rfl)).trans (hc (K + j) hlt).1)
                                    have k2 := (by8.cell (p := ⟨b, off + (K + j) * 2 + 1, none⟩) (by have := p2lt b rfl; have := Q7.q.lt; show b < _; omega)).trans ((fw7.cell (p := ⟨b, off + (K + j) * 2 + 1, none⟩) (p2lt b rfl)).trans (hc (K + j) hlt).2)
                                    have lb : b < wr.heap.size := by have := p2lt b rfl; have := Q8.q.lt; omega
                                    obtain ⟨x, hx⟩ : ∃ x, S' (K + j) = x := ⟨_, rfl⟩
                                    obtain ⟨y, hy⟩ : ∃ y, D (K + j) = y := ⟨_, rfl⟩
                                    rw [hx, hy] at hd
                                    rw [hx] at k1
                                    rw [hy] at k2 hin
                                    have hc1 : m ≤ c2 ∧ c2 ≤ 9223372036854775807 := ⟨hh2.1, by have := hh2.2.1; unfold maxLen at this; omega⟩
                                    obtain ⟨ι, hι, F, hF, hF'⟩ := fam wr.heap.size wr
                                    have q1 : ∀ x, (F x).cell? ⟨b, off + (K + j) * 2, none⟩ = _ := fun x => ((hF x).cell (p := ⟨b, off + (K + j) * 2, none⟩) lb).trans k1
                                    have q2 : ∀ x, (F x).cell? ⟨b, off + (K + j) * 2 + 1, none⟩ = _ := fun x => ((hF x).cell (p := ⟨b, off + (K + j) * 2 + 1, none⟩) lb).trans k2
                                    have hQx : Hid (∀ x, QI 0 B (F x) rs1 ds1 (lst l S2) rv1 dv1 bv) := fun x => Q8.below (hF x)
                                    have hyy : (y != y) = false := by simp
                                    have HDJ : Hid (ds1[j]? = some (x, y)) := hd
                                    have HIN : Hid (Inr y) := hin
                                    clear hx hy hd hin k1 k2 hc Q7 Q8 hh1 hh2 hh3 fw7
                                    go_wp2_with fail
                                    refine wp_region_family F (by kernel_rfl) (by kernel_rfl) (hF'.out _ (Below.refl _ _).drew) ?_
                                    repeat (go_big_quiet_step ((first | (go_at_call 17; exact Calls.family hF hF' (Nat.le_refl _) ((did_at B _ _ _ _ _ _ _ (hQx.out _) _ j (by omega) _ HDJ.out).mono fun e w' ⟨he, hw⟩ => ⟨he, hw ▸ Below.refl _ _⟩)) | (go_at_call 18; exact Calls.family hF hF' (Nat.le_refl _) (ddue_at B _ _ _ _ _ _ _ (hQx.out _) _ j (by omega) _ HDJ.out HIN.out)))))
                                    refine wpQuiet_nil ?_
                                    rintro _ ⟨z, rfl⟩
                                    have hz := hF z
                                    clear q1 q2 hF' hQx
                                    generalize F z = wf at *
                                    clear hF F
                                    go_wp2
                                    go_roundg (m - (K + (j + 1)))
                                    case measure => omega
                                    case rel => exact ⟨j + 1, by omega, by omega, by go_num, by8.trans (hz.mono by8.size)⟩
                                  · clear hjk
                                    have fw8 := fw7.trans (by8.mono (Nat.le_of_lt Q7.q.lt))
                                    have Q8q := Q8.q
                                    have hbo : SRow wr bv l S2 := by
                                      have h0 := own_srow Q8.b
                                      rw [lst_len] at h0
                                      exact h0.congr fun i hi => lst_getD l S2 i hi
                                    have hzo : SRow wr (.slice zo l c3) l S2 := s3.below fw8 s3lt
                                    have bbw : Below w.heap.size w wr := bb.trans (fw8.mono bB)
                                    clear Q7 Q8 hh1 hh2 hh3 fw7 by8 fw8
                                    go_wp2_with fail
                                    refine (busy_any B _ _ _ _ Q8q).mono ?_
                                    rintro e w8 ⟨rfl, hw8⟩; obtain rfl := hw8.symm
                                    go_wp2_with fail
                                    refine (equal_true _ _ l S2 _ hbo hzo).mono ?_
                                    rintro e w9 ⟨rfl, b9⟩
                                    go_wp2
                                    go_ret
                                    exact ⟨rfl, bbw.trans (b9.mono bbw.size)⟩
end Go.Proofs.Qxb6605917a
