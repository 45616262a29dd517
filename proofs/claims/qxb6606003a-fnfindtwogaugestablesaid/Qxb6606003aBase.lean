import Derived.Test.Qxb6606003aLocks
import Derived.Test.Qxb6606003aOwn
import Derived.BigQuiet
import Derived.Deep.RegionLaw
import Derived.Deep.OwnRows
import Derived.Deep.DeepCutAuto
import Derived.MapKept
namespace Go.Proofs.Qxb6606003a
open Go.RowKit
set_option linter.unusedVariables false
set_option linter.unusedSimpArgs false

def IsBool (e : Ending) : Prop := ∃ b, e = .returned (.bool b)
theorem isBool_mk (b : Bool) : IsBool (.returned (.bool b)) := ⟨b, rfl⟩

set_option maxHeartbeats 400000 in
theorem modeOK_any (s : ByteArray) (w : World) : Calls Try.prog 5 #[.string s] w fun e w' => IsBool e ∧ w' = w := by
  go_enter Try.func5, Try.ntmps5
  go_wp2
  all_goals
    go_ret
    exact ⟨isBool_mk _, rfl⟩

set_option maxHeartbeats 400000 in
theorem everyOK_any (n : Int) (w : World) : Calls Try.prog 6 #[.int .i64 n] w fun e w' => IsBool e ∧ w' = w := by
  go_enter Try.func6, Try.ntmps6
  go_wp2
  all_goals
    go_ret
    exact ⟨isBool_mk _, rfl⟩

set_option maxHeartbeats 400000 in
theorem new_any (w : World) : Calls Try.prog 7 #[] w fun e w' => e = .returned (.pointer (some ⟨w.heap.size + 1, 0, none⟩)) ∧
    w' = (w.alloc (.map #[] 0)).alloc (.cells #[.int .i32 0, .int .u32 0, .int .u32 0, .int .u32 0, .int .i32 0, .int .i32 0, .map (some w.heap.size)] 50) := by
  have hmm := @run_makeMap Try.prog
  go_enter Try.func7, Try.ntmps7
  go_wp2
  go_ret
  exact ⟨rfl, rfl⟩

/-- A new row's cells. -/
theorem cells_new (w : World) (cs : List Value) (t : TypeId) : ∀ j u, cs[j]? = some u → (w.alloc (.cells cs.toArray t)).cell? ((⟨w.heap.size, 0, none⟩ : Addr).add j) = some u := by
  intro j u hj
  rw [Addr.add_lit, cell_of_row _ w.heap.size _ cs.toArray t (0, 0) (heap_alloc_new w _), Nat.zero_add]
  simpa using hj
theorem own_form {w : World} {B e size n : Nat} {v : Value} {xs : List Value} (h : w.ownsRow B e size v n xs) : ∃ ao cap, v = .slice ao n cap := by
  rcases h.2 with ⟨rfl, h0⟩ | ⟨g, cap, cur, rfl, _⟩
  · exact ⟨none, 0, by rw [h0]⟩
  · exact ⟨_, cap, rfl⟩
theorem own_low {w w1 : World} {B C e size n : Nat} {v : Value} {xs : List Value} (h : w.ownsRow B e size v n xs) (hb : Below C w w1) (hv : ∀ k, v.ownBlock = some k → k < C) : w1.ownsRow B e size v n xs := by
  refine ⟨h.1, ?_⟩
  rcases h.2 with h0 | ⟨g, cap, cur, rfl, hg, hh, hn, hc, hs, htake⟩
  · exact .inl h0
  · exact .inr ⟨g, cap, cur, rfl, hg, (hb.block g (hv g rfl)).trans hh, hn, hc, hs, htake⟩
theorem below_set {B : Nat} {a w : World} {r : Nat} (h : Below B a w) (hr : B ≤ r) (o : Obj) : Below B a { w with heap := w.heap.setIfInBounds r o } :=
  ⟨h.os, h.tape, h.output, by simpa using h.size, fun k hk => by rw [← h.block k hk]; simp only; rw [Array.getElem?_setIfInBounds, if_neg (by omega)]⟩
theorem upd28 (w : World) (r : Nat) (hb : w.heap[r]? = some (.map #[] 0)) (v : Value) : (Instr.mapUpdate 28 (.map (some r)) (.int .i64 0) v).run Try.prog w = .ok () { w with heap := w.heap.setIfInBounds r (.map #[{ key := .int .i64 0, val := v, born := 0 }] 1) } := by
  simp [Instr.mapUpdate, run_underlying Try.underlying28, Go.MapKept.run_getObj_map hb, Go.MapKept.run_checkKey Try.underlying2 (k := .int .i64 0) rfl, Go.MapKept.run_findKey Try.underlying2 (k := .int .i64 0) (l := []) (a := none) rfl, Go.MapKept.run_setObj_map _ hb, Result.andThen]
theorem info58 : (Try.prog.info? 58).map (fun i => (i.zero, i.size, i.bytes)) = some (some (.agg #[.int .i64 0, .int .i64 0, .float .f64 0, .pointer none, .float .f64 0, .float .f64 0]), 6, 48) := by kernel_rfl
theorem info61 : (Try.prog.info? 61).map (fun i => (i.zero, i.size, i.bytes)) = some (some (.agg #[.int .i64 0, .float .f64 0, .pointer none, .slice none 0 0]), 4, 48) := by kernel_rfl
def ivl (a b : Int) (x : Nat) : Array Value := #[.int .i64 a, .int .i64 b, .float .f64 x, .pointer none, .float .f64 0, .float .f64 0]
def chk (a : Int) (x : Nat) (v : Value) : Array Value := #[.int .i64 a, .float .f64 x, .pointer none, v]

set_option maxHeartbeats 400000 in
theorem mkInterval_any (a b : Int) (x : Nat) (w : World) : Calls Try.prog 11 #[.int .i64 a, .int .i64 b, .float .f64 x] w fun e w' => e = .returned (.agg #[.int .i64 a, .int .i64 b, .float .f64 x, .pointer none, .float .f64 0, .float .f64 0]) ∧ w' = w.alloc (.cells #[.int .i64 a, .int .i64 b, .float .f64 x, .pointer none, .float .f64 0, .float .f64 0] 58) := by
  have hsf := fun (w : World) (a : Addr) (q : Nat) => run_store Try.prog w a (.float .f64 q) .plain rfl
  go_enter Try.func11, Try.ntmps11
  go_wp2
  refine bodyPost_ret (results_cell_row rfl _ _ w.heap.size 58 (ivl a b x) (0, 0) _ rfl (heap_alloc_new _ _) Try.underlying58 rfl rfl) rfl ?_
  exact ⟨rfl, rfl⟩

set_option maxHeartbeats 400000 in
theorem mkChunk_any (a : Int) (x : Nat) (ao : Option Addr) (n c : Nat) (w : World) : Calls Try.prog 12 #[.int .i64 a, .float .f64 x, .slice ao n c] w fun e w' => e = .returned (.agg #[.int .i64 a, .float .f64 x, .pointer none, .slice ao n c]) ∧ w' = w.alloc (.cells #[.int .i64 a, .float .f64 x, .pointer none, .slice ao n c] 61) := by
  have hsf := fun (w : World) (a : Addr) (q : Nat) => run_store Try.prog w a (.float .f64 q) .plain rfl
  go_enter Try.func12, Try.ntmps12
  go_wp2
  refine bodyPost_ret (results_cell_row rfl _ _ w.heap.size 61 (chk a x (.slice ao n c)) (0, 0) _ rfl (heap_alloc_new _ _) Try.underlying61 rfl rfl) rfl ?_
  exact ⟨rfl, rfl⟩

set_option maxRecDepth 100000 in
set_option maxHeartbeats 800000 in
theorem chunks_any (s : ByteArray) (b1 b2 b3 : Nat) (w : World) (h1 : w.cell? ⟨b1, 0, none⟩ = some (.int .i64 0)) (h2 : w.cell? ⟨b2, 0, none⟩ = some (.int .i64 1)) (h3 : w.cell? ⟨b3, 0, none⟩ = some (.int .i64 1)) :
    Calls Try.prog 8 #[.string s, .slice (some ⟨b1, 0, none⟩) 1 1, .slice (some ⟨b2, 0, none⟩) 1 1, .slice (some ⟨b3, 0, none⟩) 1 1] w fun e w' => ∃ a n c r, e = .returned (.tuple #[.slice a n c, .map r]) ∧ Below w.heap.size w w' := by
  have hmm := @run_makeMap Try.prog
  have hk1 : ∀ w, (Instr.makeSlice 27 (.int .i64 0) (.int .i64 1)).run Try.prog w = .ok (.slice (some ⟨w.heap.size, 0, none⟩) 0 1) (w.alloc (.cells (chk 0 0 (.slice none 0 0)) 61)) := fun _ => by kernel_rfl
  have hk2 : ∀ w, (Instr.makeSlice 52 (.int .i64 0) (.int .i64 1)).run Try.prog w = .ok (.slice (some ⟨w.heap.size, 0, none⟩) 0 1) (w.alloc (.cells (ivl 0 0 0) 58)) := fun _ => by kernel_rfl
  have hcv : ∀ w, (convert 2 53 (.int .i64 1)).run Try.prog w = .ok (.float .f64 4607182418800017408) w := fun _ => by kernel_rfl
  have hcz : ∀ w, (convert 2 53 (.int .i64 0)).run Try.prog w = .ok (.float .f64 0) w := fun _ => by kernel_rfl
  have g1 : b1 < w.heap.size := World.block_lt_of_cell? _ _ h1
  have g2 : b2 < w.heap.size := World.block_lt_of_cell? _ _ h2
  have g3 : b3 < w.heap.size := World.block_lt_of_cell? _ _ h3
  obtain ⟨i1, hi1, hz10, hz11, hz12⟩ := info_parts info61
  obtain ⟨i2, hi2, hz20, hz21, hz22⟩ := info_parts info58
  have bA := (((Below.refl w.heap.size w).alloc (Nat.le_refl _) (.cells (chk 0 0 (.slice none 0 0)) 61)).alloc (by simp) (.map #[] 0)).alloc (by simp; omega) (.cells (ivl 0 0 0) 58)
  go_enter Try.func8, Try.ntmps8
  go_wp2
  refine wp_loop_rounds 2 ?_
  rw [rounds_succ]
  go_wp2
  generalize hW : ((w.alloc (.cells (chk 0 0 (.slice none 0 0)) 61)).alloc (.map #[] 0)).alloc (.cells (ivl 0 0 0) 58) = W at *
  have hWs : W.heap.size = w.heap.size + 3 := by rw [← hW]; simp
  have O1 : W.ownsRow w.heap.size 61 4 (.slice (some ⟨w.heap.size, 0, none⟩) 0 1) 0 [] := by
    rw [← hW]; exact ((World.ownsRow_made (base := w.heap.size) (size := 4) w _ 1 (Nat.le_refl _) (by unfold maxLen; omega) rfl).alloc _).alloc _
  have hM : W.heap[w.heap.size + 1]? = some (.map #[] 0) := by
    rw [← hW]
    refine (Below.heap_alloc _ _ _ (by simp)).trans ?_
    have := heap_alloc_new (w.alloc (.cells (chk 0 0 (.slice none 0 0)) 61)) (.map #[] 0)
    simpa using this
  have O2 : W.ownsRow w.heap.size 58 6 (.slice (some ⟨w.heap.size + 2, 0, none⟩) 0 1) 0 [] := by
    have h0 := World.ownsRow_made (base := w.heap.size) (e := 58) (size := 6) ((w.alloc (.cells (chk 0 0 (.slice none 0 0)) 61)).alloc (.map #[] 0)) (ivl 0 0 0) 1 (by simp; omega) (by unfold maxLen; omega) rfl
    rw [hW] at h0
    simpa using h0
  have k1 := (bA.cell (p := ⟨b1, 0, none⟩) g1).trans h1
  have k2 := (bA.cell (p := ⟨b2, 0, none⟩) g2).trans h2
  have k3 := (bA.cell (p := ⟨b3, 0, none⟩) g3).trans h3
  clear hW hmm hk1 hk2
  refine wp_loop_rounds 2 ?_
  rw [rounds_succ]
  go_wp2
  go_cut [14] (fun v wx => ∃ ao c, v = .slice ao 1 c ∧ Below w.heap.size w wx ∧ wx.ownsRow w.heap.size 61 4 (.slice (some ⟨w.heap.size, 0, none⟩) 0 1) 0 [] ∧ wx.heap[w.heap.size + 1]? = some (.map #[] 0))
  case first =>
    go_region_law (first
      | (go_simp; go_at_call 11; refine (mkInterval_any _ _ _ _).mono ?_; rintro e w1 ⟨rfl, hw1⟩; have bB : Below w.heap.size w w1 := (by rw [hw1]; exact bA.drew.alloc bA.size _); have O2' : w1.ownsRow w.heap.size 58 6 (.slice (some ⟨w.heap.size + 2, 0, none⟩) 0 1) 0 [] := (by rw [hw1]; exact O2.drew.alloc _); have O1' : w1.ownsRow w.heap.size 61 4 (.slice (some ⟨w.heap.size, 0, none⟩) 0 1) 0 [] := (by rw [hw1]; exact O1.drew.alloc _); have hM' : w1.heap[w.heap.size + 1]? = some (.map #[] 0) := (by rw [hw1]; exact (Below.heap_alloc _ _ _ (by simp; omega)).trans hM); clear hw1)
      | (refine step_append_own2 _ rfl (.tmp 45) (.tmp 60) 52 rfl w.heap.size 58 i2 (.agg #[.int .i64 0, .int .i64 0, .float .f64 0, .pointer none, .float .f64 0, .float .f64 0]) 6 48 Try.underlying52 hi2 hz20 hz21 hz22 rfl (Nat.succ_pos 5) (.slice (some ⟨w.heap.size + 2, 0, none⟩) 0 1) 0 [] rfl (O2'.alloc _) ⟨w1.heap.size, 0, none⟩ 1 1 [.int .i64 0, .int .i64 1, .float .f64 4607182418800017408, .pointer none, .float .f64 0, .float .f64 0] rfl rfl (cells_new _ [.int .i64 0, .int .i64 1, .float .f64 4607182418800017408, .pointer none, .float .f64 0, .float .f64 0] 58) ?_ ?_ ?_ ?_ ?_
         · intro u hu; simp at hu; rcases hu with rfl | rfl | rfl | rfl | rfl | rfl <;> rfl
         · unfold maxLen; omega
         · omega
         · have := bB.size; simp; omega
         intro v' w2 hown' hgrow hst))
    all_goals
      have bC : Below w.heap.size w w2 := (bB.alloc bB.size _).grown hgrow (by have := bB.size; simp; omega) (fun k hk => by simp [Value.ownBlock] at hk; omega)
      have hlt2 : w.heap.size + 2 < w1.heap.size := (O2'.lt _ rfl).2
      have bD : Below (w.heap.size + 2) w1 w2 := ((Below.refl (w.heap.size + 2) w1).alloc (by omega) _).grown hgrow (by simp; omega) (fun k hk => by simp [Value.ownBlock] at hk; omega)
      obtain ⟨ao, c, hv⟩ : ∃ ao c, v' = .slice ao 1 c := own_form hown'
      go_wp2
      go_meet
      case rel => exact ⟨ao, c, hv, bC, own_low O1' bD (by simp [Value.ownBlock]), (bD.block _ (by omega)).trans hM'⟩
  case rest =>
    obtain ⟨ao, c, rfl, bC, O1', hM'⟩ := hcut
    have k1' := (bC.cell (p := ⟨b1, 0, none⟩) g1).trans h1
    have k3' := (bC.cell (p := ⟨b3, 0, none⟩) g3).trans h3
    clear k1 k2 k3 bA O1 O2 hM hWs
    have hup := upd28 wc (w.heap.size + 1) hM' (.int .i64 0)
    have bM := below_set bC (r := w.heap.size + 1) (by omega) (.map #[{ key := .int .i64 0, val := .int .i64 0, born := 0 }] 1)
    have bM2 : Below (w.heap.size + 1) wc { wc with heap := wc.heap.setIfInBounds (w.heap.size + 1) (.map #[{ key := .int .i64 0, val := .int .i64 0, born := 0 }] 1) } := below_set (Below.refl _ _) (Nat.le_refl _) _
    have OM := own_low O1' bM2 (by simp [Value.ownBlock])
    generalize hWm : ({ wc with heap := wc.heap.setIfInBounds (w.heap.size + 1) (.map #[{ key := .int .i64 0, val := .int .i64 0, born := 0 }] 1) } : World) = wm at *
    clear bM2 hWm
    go_wp2
    rw [rounds_succ]
    go_wp2_with fail
    all_goals
      refine (mkChunk_any _ _ _ _ _ _).mono ?_
      rintro e w4 ⟨rfl, hw4⟩
      have b4 : Below w.heap.size w w4 := by rw [hw4]; exact bM.alloc bM.size _
      have O4 : w4.ownsRow w.heap.size 61 4 (.slice (some ⟨w.heap.size, 0, none⟩) 0 1) 0 [] := by rw [hw4]; exact OM.alloc _
      clear hw4
      go_wp2_with (at_builtin; refine wpList_append_own _ rfl _ _ 27 rfl w.heap.size 61 i1 (.agg #[.int .i64 0, .float .f64 0, .pointer none, .slice none 0 0]) 4 48 Try.underlying27 hi1 hz10 hz11 hz12 rfl (by decide) _ _ _ rfl (O4.alloc _) ⟨w4.heap.size, 0, none⟩ 1 1 [.int .i64 0, _, .pointer none, .slice ao 1 c] rfl rfl (cells_new _ [.int .i64 0, _, .pointer none, .slice ao 1 c] 61) ?c1 (by unfold maxLen; omega) (by omega) (by have := b4.size; simp; omega) ?_)
      case c1 => intro u hu; simp at hu; rcases hu with rfl | rfl | rfl | rfl <;> rfl
      intro v6 w6 own6 g6 _
      have b6 : Below w.heap.size w w6 := (b4.alloc b4.size _).grown g6 (by have := b4.size; simp; omega) (fun k hk => by simp [Value.ownBlock] at hk; omega)
      go_wp2
      rw [rounds_succ]
      go_wp2
      go_ret2
      obtain ⟨x1, x2, rfl⟩ := own_form own6
      exact ⟨_, _, _, _, rfl, b6⟩
end Go.Proofs.Qxb6606003a
