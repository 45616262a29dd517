import Derived.Test.Qxb6606008aEnc
import Derived.Deep.OwnRows
import Derived.Lib.SliceRun
import Derived.BigQuiet
import Derived.Deep.RegionWith
namespace Go.Proofs.Qxb6606008a
open Go.RowKit
set_option linter.unusedVariables false
set_option linter.unusedSimpArgs false

/-- A block of N cells of the call's own, its first m cells told. -/
def Part (w : World) (g t N m : Nat) (f : Nat → Value) : Prop := ∃ c : Array Value, w.heap[g]? = some (.cells c t (0, 0)) ∧ c.size = N ∧ ∀ j, j < m → c[j]? = some (f j)
theorem Part.ex {w : World} {g t N m : Nat} {f : Nat → Value} (h : Part w g t N m f) (j : Nat) (hj : j < N) : ∃ v, w.cell? ⟨g, j, none⟩ = some v := by
  obtain ⟨c, hb, hn, _⟩ := h
  exact ⟨c[j]'(by omega), by rw [cell_of_row w g j c t (0, 0) hb]; simp [hn, hj]⟩
theorem Part.cell {w : World} {g t N m : Nat} {f : Nat → Value} (h : Part w g t N m f) (j : Nat) (hj : j < m) : w.cell? ⟨g, j, none⟩ = some (f j) := by
  obtain ⟨c, hb, hn, hc⟩ := h
  rw [cell_of_row w g j c t (0, 0) hb, hc j hj]
theorem Part.frozen {w : World} {g t N m : Nat} {f : Nat → Value} (h : Part w g t N m f) (j : Nat) : w.frozen? ⟨g, j, none⟩ = false := by
  obtain ⟨c, hb, hn, hc⟩ := h
  simp [World.frozen?, hb]
theorem Part.store {w : World} {g t N m : Nat} {f : Nat → Value} (h : Part w g t N m f) (hm : m < N) (v : Value) (hv : v = f m) : Part (w.setCell ⟨g, m, none⟩ v) g t N (m + 1) f := by
  obtain ⟨c, hb, hn, hc⟩ := h
  subst hv
  refine ⟨c.setIfInBounds m (f m), by simp [World.setCell, Array.getElem?_modify, hb], by simpa using hn, fun j hj => ?_⟩
  rw [Array.getElem?_setIfInBounds]
  by_cases e : m = j
  · subst e; simp [hn, hm]
  · rw [if_neg e]; exact hc j (by omega)


def IsBool (e : Ending) : Prop := ∃ b, e = .returned (.bool b)
theorem isBool_mk (b : Bool) : IsBool (.returned (.bool b)) := ⟨b, rfl⟩

set_option maxRecDepth 100000 in
set_option maxHeartbeats 400000 in
theorem clone_any (v : Value) (bs : List Int) (w : World) (h : RIn w v bs) (hn : bs.length ≤ 1048576) :
    Calls Try.prog 8 #[v] w fun e w' => ∃ v', e = .returned v' ∧ Full w' v' bs ∧ Below w.heap.size w w' := by
  obtain ⟨ao, cap, rfl, h1, h2, h4, h3⟩ := h
  unfold maxLen at h2
  have hnil := fun w a n c => Lib.run_eql_slice_nil (P := Try.prog) w 24 5 a n c 0 0 Try.underlying24
  obtain ⟨n, hbn⟩ : ∃ n, bs.length = n := ⟨_, rfl⟩
  obtain ⟨Z, hZ⟩ : ∃ Z : Nat → Int, Z = fun i => bs.getD i 0 := ⟨_, rfl⟩
  have hZi : ∀ i, bs.getD i 0 = Z i := fun i => by rw [hZ]
  have HF : Hid (∀ (w' : World) v', n ≤ maxLen → ((v' = .slice none 0 0 ∧ n = 0) ∨ ∃ b, v' = .slice (some ⟨b, 0, none⟩) n n ∧ b < w'.heap.size ∧ ∀ i, i < n → w'.cell? ⟨b, i, none⟩ = some (.int .u8 (Z i))) → Full w' v' bs) := fun w' v' hm hh => by
    refine ⟨by omega, ?_⟩
    rw [hbn]
    rcases hh with hh | ⟨b, e1, e2, e3⟩
    · exact .inl hh
    · exact .inr ⟨b, e1, e2, fun i hi => by rw [hZi]; exact e3 i hi⟩
  have h3' : n = 0 ∨ ∃ b off, ao = some ⟨b, off, none⟩ ∧ b < w.heap.size ∧ ∀ i, i < n → w.cell? ⟨b, off + i, none⟩ = some (.int .u8 (Z i)) := by
    rcases h3 with h3 | ⟨b, off, e1, e2, e3⟩
    · exact .inl (by omega)
    · exact .inr ⟨b, off, e1, e2, fun i hi => by rw [← hZi]; exact e3 i (by omega)⟩
  have hn' : n ≤ 1048576 := by omega
  have h1' : n ≤ cap := by omega
  rw [hbn]
  rw [hbn] at h4
  clear h3 hZ hZi hbn hn h1
  rcases ao with _ | a
  · obtain ⟨hn0, hc0⟩ := h4 rfl
    subst hn0
    subst hc0
    go_enter Try.func8, Try.ntmps8
    go_wp2
    go_ret
    exact ⟨_, rfl, HF.out _ _ (by unfold maxLen; omega) (.inl ⟨rfl, by first | rfl | trivial⟩), Below.refl _ _⟩
  · have hmk := run_make_row' (P := Try.prog) 24 5 (.int .u8 0) 1 Try.underlying24 info5 rfl .i64 .i64 n (by omega) (by omega)
    clear h4
    go_enter Try.func8, Try.ntmps8
    go_wp2
    go_loopw [4] (fun i wr => ∃ k : Nat, k ≤ n ∧ i = .int .i64 k ∧ Part wr w.heap.size 5 n k (fun j => .int .u8 (Z j)) ∧ Below w.heap.size w wr) (fun i _ => n - (intOf i).toNat)
    case atStart => exact ⟨0, Nat.zero_le _, rfl, ⟨_, heap_alloc_new _ _, size_madeCells _ _, fun j hj => by omega⟩, (Below.refl _ _).alloc (Nat.le_refl _) _⟩
    case round =>
      obtain ⟨k, hk, rfl, hp, hbl⟩ := hrel
      clear hmk
      by_cases hlt : k < n
      · rcases h3' with h0 | ⟨b, off, h0, hb, hc⟩
        · omega
        simp only [Option.some.injEq] at h0
        subst h0
        have hcx : wr.cell? ⟨b, off + k, none⟩ = _ := (hbl.cell (p := ⟨b, off + k, none⟩) hb).trans (hc k hlt)
        obtain ⟨u, hu⟩ := hp.ex k hlt
        have hf := hp.frozen k
        have R := hp.store hlt (.int .u8 (Z k)) rfl
        have R2 := hbl.setCell (p := ⟨w.heap.size, k, none⟩) (Nat.le_refl _) (.int .u8 (Z k))
        clear hp hbl
        go_wp2
        go_roundw
        case rel => exact ⟨k + 1, by omega, by go_num, R, R2⟩
        case measure => simp [intOf]; omega
      · have hkn : k = n := by omega
        subst hkn
        go_wp2
        go_ret
        exact ⟨_, rfl, HF.out _ _ (by unfold maxLen; omega) (.inr ⟨_, rfl, by obtain ⟨c, hc, _⟩ := hp; exact (Array.getElem?_eq_some_iff.1 hc).1, fun i hi => hp.cell i hi⟩), hbl⟩

set_option maxRecDepth 100000 in
set_option maxHeartbeats 400000 in
theorem equal_true (a b : Value) (bs : List Int) (w : World) (ha : Rd w a bs) (hb : Rd w b bs) :
    Calls Try.prog 12 #[a, b] w fun e w' => e = .returned (.bool true) ∧ Below w.heap.size w w' := by
  obtain ⟨ao, cap, rfl, h1, h2, h3⟩ := ha
  obtain ⟨bo, cap', rfl, h1', h2', h3'⟩ := hb
  unfold maxLen at h2 h2'
  obtain ⟨n, hbn⟩ : ∃ n, bs.length = n := ⟨_, rfl⟩
  obtain ⟨Z, hZ⟩ : ∃ Z : Nat → Int, (fun i => bs.getD i 0) = Z := ⟨_, rfl⟩
  have hZi : ∀ i, bs.getD i 0 = Z i := fun i => by rw [← hZ]
  simp only [hbn, hZi] at *
  clear hZ hZi hbn
  have hne : ((n : Int) != (n : Int)) = false := by simp
  have hne2 : ∀ z : Int, (z != z) = false := fun z => by simp
  go_enter Try.func12, Try.ntmps12
  go_wp2
  go_loopw [5] (fun i wr => ∃ k : Nat, k ≤ n ∧ i = .int .i64 k ∧ Below w.heap.size w wr) (fun i _ => n - (intOf i).toNat)
  case atStart => exact ⟨0, Nat.zero_le _, rfl, Below.refl _ _⟩
  case round =>
    obtain ⟨k, hk, rfl, hbl⟩ := hrel
    by_cases hlt : k < n
    · rcases h3 with ⟨_, h0, _⟩ | ⟨x, off, rfl, hb, hc⟩
      · omega
      rcases h3' with ⟨_, h0, _⟩ | ⟨x', off', rfl, hb', hc'⟩
      · omega
      have hcx : wr.cell? ⟨x, off + k, none⟩ = _ := (hbl.cell (p := ⟨x, off + k, none⟩) hb).trans (hc k hlt)
      have hcy : wr.cell? ⟨x', off' + k, none⟩ = _ := (hbl.cell (p := ⟨x', off' + k, none⟩) hb').trans (hc' k hlt)
      go_wp2
      go_quiet (fail)
      go_wp2
      go_roundw
      case rel => exact ⟨k + 1, by omega, by go_num, hbl.trans ⟨rfl, rfl, rfl, Nat.le_refl _, fun _ _ => rfl⟩⟩
      case measure => simp [intOf]; omega
    · go_wp2
      go_ret
      exact ⟨rfl, hbl⟩

theorem zzjson_any (v : Value) (bs : List Int) (s : ByteArray) (w : World) (h : Full w v bs) (hl : bs.length + s.size ≤ 1048576) :
    Calls Try.prog 9 #[v, .string s] w fun e w' => ∃ v', e = .returned v' ∧ w'.ownsRow w.heap.size 5 1 v' (bs ++ 34 :: encs (nums s) ++ [34]).length (cells (bs ++ 34 :: encs (nums s) ++ [34])) ∧ Below w.heap.size w w' := by
  have H : Hid _ := json_any v bs s w h hl
  clear h hl
  go_enter Try.func9, Try.ntmps9
  go_wp2_with fail
  refine Calls.mono H.out ?_
  rintro e w1 ⟨v1, rfl, h1, h2⟩
  go_wp2
  go_ret
  exact ⟨_, rfl, h1, h2⟩

set_option maxHeartbeats 400000 in
theorem bytes11_any (ao : Option Addr) (n cap : Nat) (s : ByteArray) (w : World) :
    Calls Try.prog 11 #[.slice ao n cap, .string s] w fun e w' => IsBool e ∧ w' = w := by
  go_enter Try.func11, Try.ntmps11
  go_wp2
  all_goals
    go_ret
    exact ⟨isBool_mk _, rfl⟩
set_option maxHeartbeats 400000 in
theorem bytes7_any (ao : Option Addr) (n cap : Nat) (s : ByteArray) (w : World) :
    Calls Try.prog 7 #[.slice ao n cap, .string s] w fun e w' => IsBool e ∧ w' = w := by
  go_enter Try.func7, Try.ntmps7
  go_wp2
  all_goals
    go_ret
    exact ⟨isBool_mk _, rfl⟩
end Go.Proofs.Qxb6606008a
