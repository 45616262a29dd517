import Derived.Test.Qxb6606003aStore
namespace Go.Proofs.Qxb6606003a
open Go.RowKit
set_option linter.unusedVariables false
set_option linter.unusedSimpArgs false

set_option maxHeartbeats 1600000 in
theorem bytes_any (n1 m1 n2 m2 q : ByteArray) (e1 e2 : Int) (w : World) :
    Calls Try.prog 4 #[.string n1, .string m1, .int .i64 e1, .string n2, .string m2, .int .i64 e2, .string q] w fun e w' => IsBool e ∧ w' = w := by
  go_enter Try.func4, Try.ntmps4
  go_wp2
  all_goals
    go_ret
    exact ⟨isBool_mk _, rfl⟩

theorem str_ne {a b : ByteArray} (h : a ≠ b) : (a.toList == b.toList) = false := by
  rw [beq_eq_false_iff_ne]
  intro e
  rw [ByteArray.toList_eq, ByteArray.toList_eq] at e
  obtain ⟨⟨x⟩⟩ := a
  obtain ⟨⟨y⟩⟩ := b
  simp only at e
  subst e
  exact h rfl

def gcells (md : ByteArray) (ev : Int) (v m : Value) : Array Value := #[.string md, .int .i64 ev, .int .i64 0, v, m]
def entry (nm : ByteArray) (pb born : Nat) : MapEntry := { key := .string nm, val := .pointer (some ⟨pb, 0, none⟩), born := born }

theorem put2 (g r : Nat) (es : Array MapEntry) (clock : Nat) (nm md : ByteArray) (ev : Int) (ao : Option Addr) (n c : Nat) (mr : Option Nat) (w : World) (hg : w.heap[g]? = some (.cells (lockCells r) 50 (0, 0)))
    (hr : w.heap[r]? = some (.map es clock)) (hk : Named es) (hno : ∀ x ∈ es.toList, x.key ≠ .string nm) :
    Calls Try.prog 9 #[.pointer (some ⟨g, 0, none⟩), .string nm, .string md, .int .i64 ev, .int .i64 0, .slice ao n c, .map mr] w fun e w' => e = .returned (.tuple #[]) ∧
      w'.heap[r]? = some (.map (es.push (entry nm w.heap.size clock)) (clock + 1)) ∧ w'.heap[w.heap.size]? = some (.cells (gcells md ev (.slice ao n c) (.map mr)) 65 (0, 0)) ∧ (∀ k, k < w.heap.size → k ≠ r → w'.heap[k]? = w.heap[k]?) ∧ w.heap.size < w'.heap.size ∧ Below r w w' := by
  have c6 : w.cell? ⟨g, 6, none⟩ = some (.map (some r)) := by rw [cell_of_row w g 6 _ 50 (0, 0) hg]; rfl
  have hlt : r < w.heap.size := (Array.getElem?_eq_some_iff.1 hr).1
  refine (put_any g r es clock nm md ev ao n c mr w c6 hr hk hno).mono ?_
  rintro e w' ⟨rfl, rfl⟩
  refine ⟨rfl, ?_, ?_, ?_, ?_, ?_⟩
  · exact (Go.MapKept.heap_set (w := w.alloc _) ((Below.heap_alloc _ _ _ hlt).trans hr)).1
  · refine ((Go.MapKept.heap_set (w := w.alloc _) ((Below.heap_alloc _ _ _ hlt).trans hr)).2 _ (by omega)).trans ?_
    exact heap_alloc_new w _
  · intro k hk1 hk2
    refine ((Go.MapKept.heap_set (w := w.alloc _) ((Below.heap_alloc _ _ _ hlt).trans hr)).2 _ hk2).trans ?_
    exact Below.heap_alloc _ _ _ hk1
  · simp
  · exact below_set ((Below.refl r w).alloc (by omega) _) (Nat.le_refl _) _

def three (W : World) : World := ((W.alloc (.cells #[.int .i64 0] 2)).alloc (.cells #[.int .i64 1] 2)).alloc (.cells #[.int .i64 1] 2)
theorem three_cells (W : World) : (three W).cell? ⟨W.heap.size, 0, none⟩ = some (.int .i64 0) ∧ (three W).cell? ⟨W.heap.size + 1, 0, none⟩ = some (.int .i64 1) ∧ (three W).cell? ⟨W.heap.size + 2, 0, none⟩ = some (.int .i64 1) ∧ Below W.heap.size W (three W) ∧ (three W).heap.size = W.heap.size + 3 := by
  refine ⟨?_, ?_, ?_, (((Below.refl _ _).alloc (Nat.le_refl _) _).alloc (by simp) _).alloc (by simp; omega) _, by simp [three]⟩
  · have h : (three W).heap[W.heap.size]? = some (.cells #[.int .i64 0] 2 (0, 0)) := (Below.heap_alloc _ _ _ (by simp; omega)).trans ((Below.heap_alloc _ _ _ (by simp)).trans (heap_alloc_new W _))
    rw [cell_of_row _ _ 0 _ 2 (0, 0) h]; rfl
  · have h : (three W).heap[W.heap.size + 1]? = some (.cells #[.int .i64 1] 2 (0, 0)) := (Below.heap_alloc _ _ _ (by simp)).trans (by have := heap_alloc_new (W.alloc (.cells #[.int .i64 0] 2)) (.cells #[.int .i64 1] 2); simpa using this)
    rw [cell_of_row _ _ 0 _ 2 (0, 0) h]; rfl
  · have h : (three W).heap[W.heap.size + 2]? = some (.cells #[.int .i64 1] 2 (0, 0)) := by
      have e : W.heap.size + 2 = ((W.alloc (.cells #[.int .i64 0] 2)).alloc (.cells #[.int .i64 1] 2)).heap.size := by simp
      rw [e]
      exact heap_alloc_new _ _
    rw [cell_of_row _ _ 0 _ 2 (0, 0) h]; rfl

theorem named_nil : Named #[] := by intro x hx; simp at hx
theorem named_one (a : ByteArray) (p b : Nat) : Named (#[].push (entry a p b)) := by intro x hx; simp at hx; subst hx; trivial
theorem named_two (a c : ByteArray) (p b p' b' : Nat) : Named ((#[].push (entry a p b)).push (entry c p' b')) := by intro x hx; simp at hx; rcases hx with rfl | rfl <;> trivial

set_option maxRecDepth 100000 in
set_option maxHeartbeats 2000000 in
theorem two_any (n1 m1 n2 m2 q : ByteArray) (e1 e2 : Int) (w : World) :
    Calls Try.prog 3 #[.string n1, .string m1, .int .i64 e1, .string n2, .string m2, .int .i64 e2, .string q] w fun e w' => e = .returned (.bool true) ∧ Below w.heap.size w w' := by
  go_enter Try.func3, Try.ntmps3
  go_wp2_with fail
  refine (bytes_any _ _ _ _ _ _ _ _).mono ?_
  rintro e w1 ⟨hB, hw1⟩; obtain rfl := hw1.symm
  obtain ⟨b, rfl⟩ := hB
  cases b
  · go_wp2
    go_ret
    exact ⟨rfl, Below.refl _ _⟩
  by_cases hnn : n1 = n2
  · subst hnn
    go_wp2
    all_goals
      go_ret
      exact ⟨rfl, Below.refl _ _⟩
  have hne := str_ne hnn
  go_wp2_with fail
  all_goals first
    | (go_ret; exact ⟨rfl, Below.refl _ _⟩)
    | skip
  refine (modeOK_any _ _).mono ?_
  rintro e w1 ⟨hB, hw1⟩; obtain rfl := hw1.symm
  obtain ⟨b, rfl⟩ := hB
  cases b
  · go_wp2
    go_ret
    exact ⟨rfl, Below.refl _ _⟩
  go_wp2_with fail
  refine (modeOK_any _ _).mono ?_
  rintro e w1 ⟨hB, hw1⟩; obtain rfl := hw1.symm
  obtain ⟨b, rfl⟩ := hB
  cases b
  · go_wp2
    go_ret
    exact ⟨rfl, Below.refl _ _⟩
  go_wp2_with fail
  refine (everyOK_any _ _).mono ?_
  rintro e w1 ⟨hB, hw1⟩; obtain rfl := hw1.symm
  obtain ⟨b, rfl⟩ := hB
  cases b
  · go_wp2
    go_ret
    exact ⟨rfl, Below.refl _ _⟩
  go_wp2_with fail
  refine (everyOK_any _ _).mono ?_
  rintro e w1 ⟨hB, hw1⟩; obtain rfl := hw1.symm
  obtain ⟨b, rfl⟩ := hB
  cases b
  · go_wp2
    go_ret
    exact ⟨rfl, Below.refl _ _⟩
  go_wp2_with fail
  refine (new_any _).mono ?_
  rintro e W0 ⟨rfl, hW0⟩
  obtain ⟨r, hrw⟩ : ∃ r, w.heap.size = r := ⟨_, rfl⟩
  have hg0 : W0.heap[r + 1]? = some (.cells (lockCells r) 50 (0, 0)) := by
    rw [hW0, ← hrw]
    have := heap_alloc_new (w.alloc (.map #[] 0)) (.cells (lockCells w.heap.size) 50)
    simpa [lockCells] using this
  have hr0 : W0.heap[r]? = some (.map #[] 0) := by
    rw [hW0, ← hrw]
    exact (Below.heap_alloc _ _ _ (by simp)).trans (heap_alloc_new w _)
  have b0 : Below r w W0 := by rw [hW0, ← hrw]; exact ((Below.refl _ _).alloc (Nat.le_refl _) _).alloc (by simp) _
  have hs0 : r + 1 < W0.heap.size := by rw [hW0, ← hrw]; simp
  rw [hrw]
  clear hW0
  obtain ⟨t1, t2, t3, bS, hS3⟩ := three_cells W0
  go_wp2_with fail
  refine (chunks_any m1 W0.heap.size (W0.heap.size + 1) (W0.heap.size + 2) _ t1 t2 t3).mono ?_
  rintro e W1 ⟨x1, y1, z1, mr1, rfl, c1⟩
  have bW1 : Below W0.heap.size W0 W1 := bS.trans (c1.mono bS.size)
  have hg1 := (bW1.block (r + 1) (by omega)).trans hg0
  have hr1 := (bW1.block r (by omega)).trans hr0
  have bb1 : Below r w W1 := b0.trans (bW1.mono (by omega))
  have hs1 : r + 1 < W1.heap.size := by have := bW1.size; omega
  clear t1 t2 t3 bS hS3 c1 bW1 hg0 hr0 b0 hs0
  go_wp2_with fail
  refine (put2 (r + 1) r #[] 0 n1 m1 e1 x1 y1 z1 mr1 W1 hg1 hr1 named_nil (fun x hx => by simp at hx)).mono ?_
  rintro e W2 ⟨rfl, hr2, hp2, hk2, hz2, bp2⟩
  have hg2 := (hk2 (r + 1) hs1 (by omega)).trans hg1
  have bb2 : Below r w W2 := bb1.trans bp2
  obtain ⟨pa, hpa⟩ : ∃ pa, W1.heap.size = pa := ⟨_, rfl⟩
  rw [hpa] at hr2 hp2 hs1 hz2
  clear hk2 bp2 bb1 hg1 hr1 hpa
  obtain ⟨t1, t2, t3, bS, hS3⟩ := three_cells W2
  go_wp2_with fail
  refine (chunks_any m2 W2.heap.size (W2.heap.size + 1) (W2.heap.size + 2) _ t1 t2 t3).mono ?_
  rintro e W3 ⟨x2, y2, z2, mr2, rfl, c1⟩
  have bW1 : Below W2.heap.size W2 W3 := bS.trans (c1.mono bS.size)
  have hg3 := (bW1.block (r + 1) (by omega)).trans hg2
  have hr3 := (bW1.block r (by omega)).trans hr2
  have hp3 := (bW1.block pa (by omega)).trans hp2
  have bb3 : Below r w W3 := bb2.trans (bW1.mono (by omega))
  have hs3 : pa < W3.heap.size := by have := bW1.size; omega
  clear t1 t2 t3 bS hS3 c1 bW1 hg2 hr2 bb2 hz2 hp2
  go_wp2_with fail
  refine (put2 (r + 1) r _ _ n2 m2 e2 x2 y2 z2 mr2 W3 hg3 hr3 (named_one _ _ _) (fun x hx => by simp at hx; subst hx; simpa [entry] using hnn)).mono ?_
  rintro e W4 ⟨rfl, hr4, hp4, hk4, hz4, bp4⟩
  have hg4 := (hk4 (r + 1) (by omega) (by omega)).trans hg3
  have hpa4 := (hk4 pa hs3 (by omega)).trans hp3
  have bb4 : Below r w W4 := bb3.trans bp4
  obtain ⟨pb, hpb⟩ : ∃ pb, W3.heap.size = pb := ⟨_, rfl⟩
  rw [hpb] at hr4 hp4 hs3
  clear hk4 bp4 bb3 hg3 hr3 hpb hp3 hz4
  have a0 : W4.cell? ⟨pa, 0, none⟩ = some (.string m1) := by rw [cell_of_row W4 pa 0 _ 65 (0, 0) hpa4]; rfl
  have a1 : W4.cell? ⟨pa, 1, none⟩ = some (.int .i64 e1) := by rw [cell_of_row W4 pa 1 _ 65 (0, 0) hpa4]; rfl
  have c0 : W4.cell? ⟨pb, 0, none⟩ = some (.string m2) := by rw [cell_of_row W4 pb 0 _ 65 (0, 0) hp4]; rfl
  have c1 : W4.cell? ⟨pb, 1, none⟩ = some (.int .i64 e2) := by rw [cell_of_row W4 pb 1 _ 65 (0, 0) hp4]; rfl
  by_cases q1 : q = n1
  · have HF : Hid _ := find_some (r + 1) r _ _ q m1 e1 pa W4 hg4 hr4 (named_two _ _ _ _ _ _) (fun x hx hxe => by
      simp at hx
      rcases hx with rfl | rfl
      · rfl
      · simp [entry] at hxe; exact absurd (hxe.trans q1).symm hnn) ⟨entry n1 pa 0, by simp, by rw [q1]; rfl⟩ (by omega) a0 a1
    have hee : (e1 == e1) = true := by simp
    have hq : (q.toList == n1.toList) = true := by rw [q1]; simp
    have hm : (m1.toList == m1.toList) = true := by simp
    clear q1 a0 a1 c0 c1 hg4 hr4 hpa4 hp4
    go_wp2_with fail
    refine Calls.mono HF.out ?_
    rintro e W5 ⟨rfl, b5⟩
    go_wp2
    go_ret
    exact ⟨rfl, by rw [hrw]; exact bb4.trans (b5.mono (by omega))⟩
  have hq1 := str_ne q1
  by_cases q2 : q = n2
  · have HF : Hid _ := find_some (r + 1) r _ _ q m2 e2 pb W4 hg4 hr4 (named_two _ _ _ _ _ _) (fun x hx hxe => by
      simp at hx
      rcases hx with rfl | rfl
      · simp [entry] at hxe; exact absurd hxe.symm q1
      · rfl) ⟨entry n2 pb (0 + 1), by simp, by rw [q2]; rfl⟩ (by omega) c0 c1
    have hee : (e2 == e2) = true := by simp
    have hq : (q.toList == n2.toList) = true := by rw [q2]; simp
    have hm : (m2.toList == m2.toList) = true := by simp
    clear q1 q2 a0 a1 c0 c1 hg4 hr4 hpa4 hp4
    go_wp2_with fail
    refine Calls.mono HF.out ?_
    rintro e W5 ⟨rfl, b5⟩
    go_wp2
    go_ret
    exact ⟨rfl, by rw [hrw]; exact bb4.trans (b5.mono (by omega))⟩
  have hq2 := str_ne q2
  have HF : Hid _ := find_none (r + 1) r _ _ q W4 hg4 hr4 (named_two _ _ _ _ _ _) (fun x hx hxe => by
      simp at hx
      rcases hx with rfl | rfl
      · simp [entry] at hxe; exact absurd hxe.symm q1
      · simp [entry] at hxe; exact absurd hxe.symm q2)
  clear q1 q2 a0 a1 c0 c1 hg4 hr4 hpa4 hp4
  go_wp2_with fail
  refine Calls.mono HF.out ?_
  rintro e W5 ⟨rfl, b5⟩
  go_wp2
  go_ret
  exact ⟨rfl, by rw [hrw]; exact bb4.trans (b5.mono (by omega))⟩
end Go.Proofs.Qxb6606003a
