import Derived.Test.Qxb6605917aTime
import Derived.Deep.OwnRows
import Derived.Lib.SliceRun
namespace Go.Proofs.Qxb6605917a
open Go.RowKit
set_option linter.unusedVariables false
set_option linter.unusedSimpArgs false

/-- A slice of strings that is read: its n strings by their index. -/
def SRow (w : World) (v : Value) (n : Nat) (S : Nat → ByteArray) : Prop :=
  ∃ ao cap, v = .slice ao n cap ∧ n ≤ cap ∧ cap ≤ maxLen ∧ ((ao = none ∧ n = 0 ∧ cap = 0) ∨ ∃ b off, ao = some ⟨b, off, none⟩ ∧ b < w.heap.size ∧ ∀ i, i < n → w.cell? ⟨b, off + i, none⟩ = some (.string (S i)))
/-- A slice of the law's own deferrals: a string and a number each. -/
def PRow (w : World) (v : Value) (n : Nat) (S : Nat → ByteArray) (D : Nat → Int) : Prop :=
  ∃ ao cap, v = .slice ao n cap ∧ n ≤ cap ∧ cap ≤ maxLen ∧ ((ao = none ∧ n = 0 ∧ cap = 0) ∨ ∃ b off, ao = some ⟨b, off, none⟩ ∧ b < w.heap.size ∧ ∀ i, i < n → w.cell? ⟨b, off + i * 2, none⟩ = some (.string (S i)) ∧ w.cell? ⟨b, off + i * 2 + 1, none⟩ = some (.int .i64 (D i)))

theorem SRow.below {w w' : World} {B : Nat} {v : Value} {n : Nat} {S : Nat → ByteArray} (h : SRow w v n S) (hb : Below B w w') (hv : ∀ k, v.ownBlock = some k → k < B) : SRow w' v n S := by
  obtain ⟨ao, cap, rfl, h1, h2, h3⟩ := h
  refine ⟨ao, cap, rfl, h1, h2, ?_⟩
  rcases h3 with h3 | ⟨b, off, rfl, hlt, hc⟩
  · exact .inl h3
  · have := hv b rfl
    exact .inr ⟨b, off, rfl, Nat.lt_of_lt_of_le hlt hb.size, fun i hi => (hb.cell (p := ⟨b, off + i, none⟩) this).trans (hc i hi)⟩
theorem SRow.lt {w : World} {v : Value} {n : Nat} {S : Nat → ByteArray} (h : SRow w v n S) : ∀ k, v.ownBlock = some k → k < w.heap.size := by
  obtain ⟨ao, cap, rfl, h1, h2, h3⟩ := h
  rcases h3 with ⟨rfl, _⟩ | ⟨b, off, rfl, hlt, hc⟩
  · intro k hk; simp [Value.ownBlock] at hk
  · intro k hk; simp [Value.ownBlock] at hk; omega
theorem PRow.below {w w' : World} {B : Nat} {v : Value} {n : Nat} {S : Nat → ByteArray} {D : Nat → Int} (h : PRow w v n S D) (hb : Below B w w') (hv : ∀ k, v.ownBlock = some k → k < B) : PRow w' v n S D := by
  obtain ⟨ao, cap, rfl, h1, h2, h3⟩ := h
  refine ⟨ao, cap, rfl, h1, h2, ?_⟩
  rcases h3 with h3 | ⟨b, off, rfl, hlt, hc⟩
  · exact .inl h3
  · have := hv b rfl
    exact .inr ⟨b, off, rfl, Nat.lt_of_lt_of_le hlt hb.size, fun i hi => ⟨(hb.cell (p := ⟨b, off + i * 2, none⟩) this).trans (hc i hi).1, (hb.cell (p := ⟨b, off + i * 2 + 1, none⟩) this).trans (hc i hi).2⟩⟩
theorem PRow.lt {w : World} {v : Value} {n : Nat} {S : Nat → ByteArray} {D : Nat → Int} (h : PRow w v n S D) : ∀ k, v.ownBlock = some k → k < w.heap.size := by
  obtain ⟨ao, cap, rfl, h1, h2, h3⟩ := h
  rcases h3 with ⟨rfl, _⟩ | ⟨b, off, rfl, hlt, hc⟩
  · intro k hk; simp [Value.ownBlock] at hk
  · intro k hk; simp [Value.ownBlock] at hk; omega

/-- The same of a slice that came in: an empty one may begin anywhere. -/
def SIn (w : World) (v : Value) (n : Nat) (S : Nat → ByteArray) : Prop :=
  ∃ ao cap, v = .slice ao n cap ∧ n ≤ cap ∧ cap ≤ maxLen ∧ (n = 0 ∨ ∃ b off, ao = some ⟨b, off, none⟩ ∧ b < w.heap.size ∧ ∀ i, i < n → w.cell? ⟨b, off + i, none⟩ = some (.string (S i)))
def PIn (w : World) (v : Value) (n : Nat) (S : Nat → ByteArray) (D : Nat → Int) : Prop :=
  ∃ ao cap, v = .slice ao n cap ∧ n ≤ cap ∧ cap ≤ maxLen ∧ (n = 0 ∨ ∃ b off, ao = some ⟨b, off, none⟩ ∧ b < w.heap.size ∧ ∀ i, i < n → w.cell? ⟨b, off + i * 2, none⟩ = some (.string (S i)) ∧ w.cell? ⟨b, off + i * 2 + 1, none⟩ = some (.int .i64 (D i)))
theorem SRow.toIn {w : World} {v : Value} {n : Nat} {S : Nat → ByteArray} (h : SRow w v n S) : SIn w v n S := by
  obtain ⟨ao, cap, rfl, h1, h2, h3⟩ := h
  refine ⟨ao, cap, rfl, h1, h2, ?_⟩
  rcases h3 with h3 | h3
  · exact .inl h3.2.1
  · exact .inr h3
theorem SIn.below {w w' : World} {v : Value} {n : Nat} {S : Nat → ByteArray} (h : SIn w v n S) (hb : Below w.heap.size w w') : SIn w' v n S := by
  obtain ⟨ao, cap, rfl, h1, h2, h3⟩ := h
  refine ⟨ao, cap, rfl, h1, h2, ?_⟩
  rcases h3 with h3 | ⟨b, off, rfl, hlt, hc⟩
  · exact .inl h3
  · exact .inr ⟨b, off, rfl, Nat.lt_of_lt_of_le hlt hb.size, fun i hi => (hb.cell (p := ⟨b, off + i, none⟩) hlt).trans (hc i hi)⟩
theorem PIn.below {w w' : World} {v : Value} {n : Nat} {S : Nat → ByteArray} {D : Nat → Int} (h : PIn w v n S D) (hb : Below w.heap.size w w') : PIn w' v n S D := by
  obtain ⟨ao, cap, rfl, h1, h2, h3⟩ := h
  refine ⟨ao, cap, rfl, h1, h2, ?_⟩
  rcases h3 with h3 | ⟨b, off, rfl, hlt, hc⟩
  · exact .inl h3
  · exact .inr ⟨b, off, rfl, Nat.lt_of_lt_of_le hlt hb.size, fun i hi => ⟨(hb.cell (p := ⟨b, off + i * 2, none⟩) hlt).trans (hc i hi).1, (hb.cell (p := ⟨b, off + i * 2 + 1, none⟩) hlt).trans (hc i hi).2⟩⟩

/-- A block of N cells of the call's own, its first m cells told. -/
def Part (w : World) (g t N m : Nat) (f : Nat → Value) : Prop := ∃ c : Array Value, w.heap[g]? = some (.cells c t (0, 0)) ∧ c.size = N ∧ ∀ j, j < m → c[j]? = some (f j)
theorem Part.ex {w : World} {g t N m : Nat} {f : Nat → Value} (h : Part w g t N m f) (j : Nat) (hj : j < N) : ∃ v, w.cell? ⟨g, j, none⟩ = some v := by
  obtain ⟨c, hb, hn, _⟩ := h
  exact ⟨c[j]'(by omega), by rw [cell_of_row w g j c t (0, 0) hb]; simp [hn, hj]⟩
theorem Part.cell {w : World} {g t N m : Nat} {f : Nat → Value} (h : Part w g t N m f) (j : Nat) (hj : j < m) : w.cell? ⟨g, j, none⟩ = some (f j) := by
  obtain ⟨c, hb, hn, hc⟩ := h
  rw [cell_of_row w g j c t (0, 0) hb, hc j hj]
theorem Part.frozen {w : World} {g t N m : Nat} {f : Nat → Value} (h : Part w g t N m f) (j : Nat) : w.frozen? ⟨g, j, none⟩ = false := by
  obtain ⟨c, hb, hn, hc⟩ := h
  simp [World.frozen?, hb]
theorem Part.store {w : World} {g t N m : Nat} {f : Nat → Value} (h : Part w g t N m f) (hm : m < N) (v : Value) (hv : v = f m) : Part (w.setCell ⟨g, m, none⟩ v) g t N (m + 1) f := by
  obtain ⟨c, hb, hn, hc⟩ := h
  subst hv
  refine ⟨c.setIfInBounds m (f m), by simp [World.setCell, Array.getElem?_modify, hb], by simpa using hn, fun j hj => ?_⟩
  rw [Array.getElem?_setIfInBounds]
  by_cases e : m = j
  · subst e; simp [hn, hm]
  · rw [if_neg e]; exact hc j (by omega)

theorem Try.info9h : (Try.prog.info? 9).map (fun i => (i.zero, i.size, i.bytes)) = some (some (.string ByteArray.empty), 1, 16) := by kernel_rfl
theorem Try.info28 : (Try.prog.info? 28).map (fun i => (i.zero, i.size, i.bytes)) = some (some (.agg #[.string ByteArray.empty, .int .i64 0]), 2, 24) := by kernel_rfl
theorem Try.info2 : (Try.prog.info? 2).map (fun i => (i.zero, i.size, i.bytes)) = some (some (.int .i64 0), 1, 8) := by kernel_rfl

set_option maxHeartbeats 400000 in
theorem addBytes_any (q : Int) (v : Value) (n : Nat) (S : Nat → ByteArray) (w : World) (h : SIn w v n S) :
    Calls Try.prog 6 #[.int .i64 q, v] w fun e w' => (∃ r : Int, e = .returned (.int .i64 r)) ∧ w' = w := by
  obtain ⟨ao, cap, rfl, h1, h2, h3⟩ := h
  unfold maxLen at h2
  go_enter Try.func6, Try.ntmps6
  go_wp2
  go_loop [0, 5] (fun t i => ∃ (k : Nat) (x : Int), k ≤ n ∧ t = .int .i64 x ∧ i = .int .i64 k) (fun _ i => n - (intOf i).toNat)
  case atStart => exact ⟨0, q, Nat.zero_le _, rfl, rfl⟩
  case round =>
    obtain ⟨k, x, hk, rfl, rfl⟩ := hrel
    by_cases hlt : k < n
    · rcases h3 with h0 | ⟨b, off, rfl, hb, hc⟩
      · omega
      have hcx := hc k hlt
      go_wp2
      · go_ret
        exact ⟨⟨_, rfl⟩, rfl⟩
      · go_round
        case rel => exact ⟨k + 1, _, by omega, rfl, by go_num⟩
        case measure => simp [intOf]; omega
    · go_wp2
      go_ret
      exact ⟨⟨_, rfl⟩, rfl⟩
set_option maxHeartbeats 400000 in
theorem addDeferralBytes_any (q : Int) (v : Value) (n : Nat) (S : Nat → ByteArray) (D : Nat → Int) (w : World) (h : PIn w v n S D) :
    Calls Try.prog 7 #[.int .i64 q, v] w fun e w' => (∃ r : Int, e = .returned (.int .i64 r)) ∧ w' = w := by
  obtain ⟨ao, cap, rfl, h1, h2, h3⟩ := h
  unfold maxLen at h2
  go_enter Try.func7, Try.ntmps7
  go_wp2
  go_loop [0, 5] (fun t i => ∃ (k : Nat) (x : Int), k ≤ n ∧ t = .int .i64 x ∧ i = .int .i64 k) (fun _ i => n - (intOf i).toNat)
  case atStart => exact ⟨0, q, Nat.zero_le _, rfl, rfl⟩
  case round =>
    obtain ⟨k, x, hk, rfl, rfl⟩ := hrel
    by_cases hlt : k < n
    · rcases h3 with h0 | ⟨b, off, rfl, hb, hc⟩
      · omega
      have hcx := (hc k hlt).1
      go_wp2
      · go_ret
        exact ⟨⟨_, rfl⟩, rfl⟩
      · go_round
        case rel => exact ⟨k + 1, _, by omega, rfl, by go_num⟩
        case measure => simp [intOf]; omega
    · go_wp2
      go_ret
      exact ⟨⟨_, rfl⟩, rfl⟩

set_option maxRecDepth 100000 in
set_option maxHeartbeats 400000 in
theorem clone_any (v : Value) (n : Nat) (S : Nat → ByteArray) (w : World) (h : SIn w v n S) (hn : n ≤ 1048576) :
    Calls Try.prog 8 #[v] w fun e w' => ∃ v', e = .returned v' ∧ SRow w' v' n S ∧ Below w.heap.size w w' ∧ ∀ k, v'.ownBlock = some k → w.heap.size ≤ k := by
  obtain ⟨ao, cap, rfl, h1, h2, h3⟩ := h
  unfold maxLen at h2
  have hnil := fun w a n c => Lib.run_eql_slice_nil (P := Try.prog) w 22 9 a n c 0 0 Try.underlying22
  rcases ao with _ | a
  · have hn0 : n = 0 := by
      rcases h3 with h0 | ⟨b, off, h0, _⟩
      · exact h0
      · cases h0
    subst hn0
    go_enter Try.func8, Try.ntmps8
    go_wp2
    go_ret
    exact ⟨_, rfl, ⟨none, 0, rfl, Nat.le_refl _, by unfold maxLen; omega, .inl ⟨rfl, rfl, rfl⟩⟩, Below.refl _ _, fun k hk => by simp [Value.ownBlock] at hk⟩
  · have hmk := run_make_row' (P := Try.prog) 22 9 (.string ByteArray.empty) 16 Try.underlying22 Try.info9h rfl .i64 .i64 n (by omega) (by omega)
    go_enter Try.func8, Try.ntmps8
    go_wp2
    go_loopw [4] (fun i wr => ∃ k : Nat, k ≤ n ∧ i = .int .i64 k ∧ Part wr w.heap.size 9 n k (fun j => .string (S j)) ∧ Below w.heap.size w wr) (fun i _ => n - (intOf i).toNat)
    case atStart => exact ⟨0, Nat.zero_le _, rfl, ⟨_, heap_alloc_new _ _, size_madeCells _ _, fun j hj => by omega⟩, (Below.refl _ _).alloc (Nat.le_refl _) _⟩
    case round =>
      obtain ⟨k, hk, rfl, hp, hbl⟩ := hrel
      clear hmk
      by_cases hlt : k < n
      · rcases h3 with h0 | ⟨b, off, h0, hb, hc⟩
        · omega
        simp only [Option.some.injEq] at h0
        subst h0
        have hcx : wr.cell? ⟨b, off + k, none⟩ = _ := (hbl.cell (p := ⟨b, off + k, none⟩) hb).trans (hc k hlt)
        obtain ⟨u, hu⟩ := hp.ex k hlt
        have hf := hp.frozen k
        have R := hp.store hlt (.string (S k)) rfl
        have R2 := hbl.setCell (p := ⟨w.heap.size, k, none⟩) (Nat.le_refl _) (.string (S k))
        clear hp hbl
        go_wp2
        go_roundw
        case rel => exact ⟨k + 1, by omega, by go_num, R, R2⟩
        case measure => simp [intOf]; omega
      · have hkn : k = n := by omega
        subst hkn
        go_wp2
        go_ret
        exact ⟨_, rfl, ⟨_, k, rfl, Nat.le_refl _, by unfold maxLen; omega, .inr ⟨_, 0, rfl, by obtain ⟨c, hc, _⟩ := hp; exact (Array.getElem?_eq_some_iff.1 hc).1, fun i hi => by rw [Nat.zero_add]; exact hp.cell i hi⟩⟩, hbl, fun j hj => by simp [Value.ownBlock] at hj; omega⟩

def pcell (S : Nat → ByteArray) (D : Nat → Int) (j : Nat) : Value := if j % 2 = 0 then .string (S (j / 2)) else .int .i64 (D (j / 2))
theorem pcell_even (S : Nat → ByteArray) (D : Nat → Int) (k : Nat) : pcell S D (k * 2) = .string (S k) := by
  unfold pcell; rw [if_pos (by omega), show k * 2 / 2 = k from by omega]
theorem pcell_odd (S : Nat → ByteArray) (D : Nat → Int) (k : Nat) : pcell S D (k * 2 + 1) = .int .i64 (D k) := by
  unfold pcell; rw [if_neg (by omega), show (k * 2 + 1) / 2 = k from by omega]

set_option maxRecDepth 100000 in
set_option maxHeartbeats 400000 in
theorem cloneDeferrals_any (v : Value) (n : Nat) (S : Nat → ByteArray) (D : Nat → Int) (w : World) (h : PIn w v n S D) (hn : n ≤ 1048576) :
    Calls Try.prog 9 #[v] w fun e w' => ∃ v', e = .returned v' ∧ PRow w' v' n S D ∧ Below w.heap.size w w' ∧ ∀ k, v'.ownBlock = some k → w.heap.size ≤ k := by
  obtain ⟨ao, cap, rfl, h1, h2, h3⟩ := h
  unfold maxLen at h2
  have hnil := fun w a n c => Lib.run_eql_slice_nil (P := Try.prog) w 23 28 a n c 0 0 Try.underlying23
  rcases ao with _ | a
  · have hn0 : n = 0 := by
      rcases h3 with h0 | ⟨b, off, h0, _⟩
      · exact h0
      · cases h0
    subst hn0
    go_enter Try.func9, Try.ntmps9
    go_wp2
    go_ret
    exact ⟨_, rfl, ⟨none, 0, rfl, Nat.le_refl _, by unfold maxLen; omega, .inl ⟨rfl, rfl, rfl⟩⟩, Below.refl _ _, fun k hk => by simp [Value.ownBlock] at hk⟩
  · obtain ⟨i, hi, hz0, hz1, hz2⟩ := info_parts Try.info28
    obtain ⟨C, hC⟩ : ∃ C, madeCells (Value.cells (.agg #[.string ByteArray.empty, .int .i64 0])) (n * 2) = C := ⟨_, rfl⟩
    have hCs : C.size = n * 2 := by rw [← hC]; exact size_madeCells _ _
    have hmk : ∀ w, (Instr.makeSlice 23 (.int .i64 (n : Int)) (.int .i64 (n : Int))).run Try.prog w = .ok (.slice (some ⟨w.heap.size, 0, none⟩) n n) (w.alloc (.cells C 28)) := fun w => by
      have := run_make (P := Try.prog) w 23 28 i _ Try.underlying23 hi hz0 .i64 .i64 n n (by omega) (Int.le_refl _) (by rw [hz2]; omega) (by omega)
      rw [hz1, Int.toNat_natCast, hC] at this
      exact this
    clear hC
    go_enter Try.func9, Try.ntmps9
    go_wp2
    go_loopw [4] (fun i wr => ∃ k : Nat, k ≤ n ∧ i = .int .i64 k ∧ Part wr w.heap.size 28 (n * 2) (k * 2) (pcell S D) ∧ Below w.heap.size w wr) (fun i _ => n - (intOf i).toNat)
    case atStart => exact ⟨0, Nat.zero_le _, rfl, ⟨_, heap_alloc_new _ _, hCs, fun j hj => by omega⟩, (Below.refl _ _).alloc (Nat.le_refl _) _⟩
    case round =>
      obtain ⟨k, hk, rfl, hp, hbl⟩ := hrel
      clear hmk
      by_cases hlt : k < n
      · rcases h3 with h0 | ⟨b, off, h0, hb, hc⟩
        · omega
        simp only [Option.some.injEq] at h0
        subst h0
        have hcx : wr.cell? ⟨b, off + k * 2, none⟩ = _ := (hbl.cell (p := ⟨b, off + k * 2, none⟩) hb).trans (hc k hlt).1
        have hcy : wr.cell? ⟨b, off + k * 2 + 1, none⟩ = _ := (hbl.cell (p := ⟨b, off + k * 2 + 1, none⟩) hb).trans (hc k hlt).2
        obtain ⟨u, hu⟩ := hp.ex (k * 2) (by omega)
        obtain ⟨u', hu'⟩ := hp.ex (k * 2 + 1) (by omega)
        have hf := hp.frozen (k * 2)
        have hf' := hp.frozen (k * 2 + 1)
        have R := (hp.store (by omega) (.string (S k)) (pcell_even S D k).symm).store (by omega) (.int .i64 (D k)) (pcell_odd S D k).symm
        have R2 := (hbl.setCell (p := ⟨w.heap.size, k * 2, none⟩) (Nat.le_refl _) (.string (S k))).setCell (p := ⟨w.heap.size, k * 2 + 1, none⟩) (Nat.le_refl _) (.int .i64 (D k))
        clear hp hbl
        go_wp2
        go_roundw
        case rel => exact ⟨k + 1, by omega, by go_num, by rw [show (k + 1) * 2 = k * 2 + 1 + 1 from by omega]; exact R, R2⟩
        case measure => simp [intOf]; omega
      · have hkn : k = n := by omega
        subst hkn
        go_wp2
        go_ret
        exact ⟨_, rfl, ⟨_, k, rfl, Nat.le_refl _, by unfold maxLen; omega, .inr ⟨_, 0, rfl, by obtain ⟨c, hc, _⟩ := hp; exact (Array.getElem?_eq_some_iff.1 hc).1, fun i hi => by
          rw [Nat.zero_add, ← pcell_even S D, ← pcell_odd S D]
          exact ⟨hp.cell _ (by omega), hp.cell _ (by omega)⟩⟩⟩, hbl, fun j hj => by simp [Value.ownBlock] at hj; omega⟩

set_option maxRecDepth 100000 in
set_option maxHeartbeats 400000 in
theorem equal_true (a b : Value) (n : Nat) (S : Nat → ByteArray) (w : World) (ha : SRow w a n S) (hb : SRow w b n S) :
    Calls Try.prog 19 #[a, b] w fun e w' => e = .returned (.bool true) ∧ Below w.heap.size w w' := by
  obtain ⟨ao, cap, rfl, h1, h2, h3⟩ := ha
  obtain ⟨bo, cap', rfl, h1', h2', h3'⟩ := hb
  unfold maxLen at h2 h2'
  have hne : ((n : Int) != (n : Int)) = false := by simp
  go_enter Try.func19, Try.ntmps19
  go_wp2
  go_loopw [5] (fun i wr => ∃ k : Nat, k ≤ n ∧ i = .int .i64 k ∧ Below w.heap.size w wr) (fun i _ => n - (intOf i).toNat)
  case atStart => exact ⟨0, Nat.zero_le _, rfl, Below.refl _ _⟩
  case round =>
    obtain ⟨k, hk, rfl, hbl⟩ := hrel
    by_cases hlt : k < n
    · rcases h3 with ⟨_, h0, _⟩ | ⟨x, off, rfl, hb, hc⟩
      · omega
      rcases h3' with ⟨_, h0, _⟩ | ⟨x', off', rfl, hb', hc'⟩
      · omega
      have hcx : wr.cell? ⟨x, off + k, none⟩ = _ := (hbl.cell (p := ⟨x, off + k, none⟩) hb).trans (hc k hlt)
      have hcy : wr.cell? ⟨x', off' + k, none⟩ = _ := (hbl.cell (p := ⟨x', off' + k, none⟩) hb').trans (hc' k hlt)
      go_wp2
      go_quiet (fail)
      go_wp2
      go_roundw
      case rel => exact ⟨k + 1, by omega, by go_num, hbl.trans ⟨rfl, rfl, rfl, Nat.le_refl _, fun _ _ => rfl⟩⟩
      case measure => simp [intOf]; omega
    · go_wp2
      go_ret
      exact ⟨rfl, hbl⟩

end Go.Proofs.Qxb6605917a
