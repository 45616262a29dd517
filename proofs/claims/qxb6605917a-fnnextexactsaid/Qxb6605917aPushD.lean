import Derived.Test.Qxb6605917aQueue
namespace Go.Proofs.Qxb6605917a
open Go.RowKit
set_option linter.unusedVariables false
set_option linter.unusedSimpArgs false

theorem own_below {w w1 : World} {B e size n : Nat} {v : Value} {xs : List Value} (h : w.ownsRow B e size v n xs) (hb : Below w.heap.size w w1) : w1.ownsRow B e size v n xs := by
  refine ⟨h.1, ?_⟩
  rcases h.2 with h2 | ⟨g, cap, cur, hv, hg, hh, r⟩
  · exact .inl h2
  · exact .inr ⟨g, cap, cur, hv, hg, (hb.block g (Array.getElem?_eq_some_iff.1 hh).1).trans hh, r⟩

theorem qb_below {w w1 : World} {B : Nat} {m : Int} {rv dv bv : Value} (h : QB B w m rv dv bv) (hb : Below w.heap.size w w1) : QB B w1 m rv dv bv := h.of_block (hb.block B h.lt)

theorem dcell_news (w : World) (x : ByteArray) (a s : Int) : ∀ j u, [Value.string x, .int .u64 a, .int .i64 s, .pointer none][j]? = some u → (w.alloc (.cells #[.string x, .int .u64 a, .int .i64 s, .pointer none] 63)).cell? ((⟨w.heap.size, 0, none⟩ : Addr).add j) = some u := by
  intro j u hj
  match j, hj with
  | 0, hj => simp at hj; subst hj; simp [Addr.add]
  | 1, hj => simp at hj; subst hj; simp [Addr.add]
  | 2, hj => simp at hj; subst hj; simp [Addr.add]
  | 3, hj => simp at hj; subst hj; simp [Addr.add]
  | k + 4, hj => simp at hj

set_option maxRecDepth 100000 in
set_option maxHeartbeats 800000 in
theorem pushDeferred_any (B : Nat) (x : ByteArray) (n : Int) (rs : List ByteArray) (ds : List (ByteArray × Int)) (bs : List ByteArray) (w : World) (h : QP B w rs ds bs) (hn : ds.length ≤ 1048576) (d0 : -9223372036854775808 ≤ n) (d1 : n ≤ 9223372036854775807) :
    Calls Try.prog 12 #[.pointer (some ⟨B, 0, none⟩), .string x, .int .i64 n] w fun e w' => e = .returned (.tuple #[]) ∧ QP B w' rs (ds ++ [(x, n)]) bs ∧ Below B w w' := by
  obtain ⟨rv, dv, bv, hq, hr, hd, hb, a1, a2, a3⟩ := h
  obtain ⟨i, hi, hz0, hz1, hz2⟩ := info_parts Try.info63
  obtain ⟨a, ha⟩ : ∃ a, n % 1000000000 = a := ⟨_, rfl⟩
  obtain ⟨s, hs⟩ : ∃ s, n / 1000000000 = s := ⟨_, rfl⟩
  have hat : ∀ w, Calls Try.prog 22 #[.int .i64 n] w fun e w' => e = .returned (.agg #[.int .u64 a, .int .i64 s, .pointer none]) ∧ Below w.heap.size w w' := by rw [← ha, ← hs]; exact fun w => at_any n w d0 d1
  have HA : Hid (dcell (x, n) = [.string x, .int .u64 a, .int .i64 s, .pointer none]) := by show _ = _; rw [← ha, ← hs]; rfl
  have c8 := hq.cell8
  have f8 := hq.frozen 8
  have hB := hq.lt
  have HAT := (show Hid _ from hat)
  clear ha hs hat
  go_enter Try.func12, Try.ntmps12
  go_wp2
  go_region_law (first
    | (go_simp; go_at_call 22; refine (HAT.out _).mono ?_; rintro e w1 ⟨rfl, hb1⟩; have hb2 : Below w.heap.size w w1 := (Below.refl _ _).drew.trans hb1; have hq1 := qb_below hq hb2; have c8' := hq1.cell8; have f8' := hq1.frozen 8; have c8a : ∀ o, (w1.alloc o).cell? ⟨B, 8, none⟩ = some dv := fun o => (World.cell?_alloc_past _ _ _ hq1.lt).trans c8')
    | (refine step_append_own2 _ rfl (.tmp 10) (.tmp 15) 55 rfl (B + 1) 63 i (.agg #[.string ByteArray.empty, .int .u64 0, .int .i64 0, .pointer none]) 4 40 Try.underlying55 hi hz0 hz1 hz2 rfl (Nat.succ_pos 3) dv ds.length (dcells ds) rfl ((own_below hd hb2).alloc _) ⟨w1.heap.size, 0, none⟩ 1 1 [.string x, .int .u64 a, .int .i64 s, .pointer none] rfl rfl (dcell_news _ _ _ _) ?_ ?_ ?_ ?_ ?_
       · intro u hu; simp at hu; rcases hu with rfl | rfl | rfl | rfl <;> rfl
       · unfold maxLen; omega
       · omega
       · have := hb2.size; simp; omega
       intro v' w2 hown' hgrow hst
       rw [← HA.out] at hown'
       have R := qp_deferred (qb_below hq hb2) (own_below hr hb2) (own_below hd hb2) (own_below hb hb2) a1 a2 a3 hown' hgrow hst
       have R2 : Below B w (w2.setCell ⟨B, 8, none⟩ v') := (hb2.mono (by omega)).trans (below_grown (by have := hb2.size; omega) (own_below hd hb2) hgrow)
       have hq2 := qb_grown (qb_below hq hb2) (own_below hd hb2) hgrow
       have c8'' := hq2.cell8
       have f8'' := hq2.frozen 8
       obtain ⟨g, cap, hv⟩ := form hown'
       clear hown' hgrow hst hq2
       rw [hv] at R R2 ⊢))
  all_goals go_end0
  all_goals exact ⟨rfl, R, R2⟩
end Go.Proofs.Qxb6605917a
