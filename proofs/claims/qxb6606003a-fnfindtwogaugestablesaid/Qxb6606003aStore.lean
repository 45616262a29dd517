import Derived.Test.Qxb6606003aBase
import Derived.Conc.RwLone
namespace Go.Proofs.Qxb6606003a
open Go.RowKit
open Go.RwLone
set_option linter.unusedVariables false
set_option linter.unusedSimpArgs false

/-- The map by name: each key a string. -/
def Named (es : Array MapEntry) : Prop := ∀ x ∈ es.toList, Go.MapKept.IsKey .string x.key

theorem upd36 (w : World) (r : Nat) (es : Array MapEntry) (clock : Nat) (hb : w.heap[r]? = some (.map es clock)) (hk : Named es) (s : ByteArray) (hno : ∀ x ∈ es.toList, x.key ≠ .string s) (v : Value) :
    (Instr.mapUpdate 36 (.map (some r)) (.string s) v).run Try.prog w = .ok () { w with heap := w.heap.setIfInBounds r (.map (es.push { key := .string s, val := v, born := clock }) (clock + 1)) } := by
  rcases Go.MapKept.findNow_spec (d := .string) (k := .string s) trivial es.toList 0 hk with ⟨h1, _⟩ | ⟨j, e, h1, h2, h3⟩
  · simp [Instr.mapUpdate, run_underlying Try.underlying36, Go.MapKept.run_getObj_map hb, Go.MapKept.run_checkKey Try.underlying9 (k := .string s) trivial, Go.MapKept.run_findKey Try.underlying9 h1, Go.MapKept.run_setObj_map _ hb, Result.andThen]
  · exact absurd h3 (hno e (List.mem_of_getElem? h2))

theorem look36 (w : World) (r : Nat) (es : Array MapEntry) (clock : Nat) (hb : w.heap[r]? = some (.map es clock)) (hk : Named es) (s : ByteArray) :
    ((Instr.lookup 36 (.map (some r)) (.string s) false).run Try.prog w = .ok (.pointer none) w ∧ ∀ x ∈ es.toList, x.key ≠ .string s) ∨
    ∃ e ∈ es.toList, (Instr.lookup 36 (.map (some r)) (.string s) false).run Try.prog w = .ok e.val w ∧ e.key = .string s := by
  rcases Go.MapKept.findNow_spec (d := .string) (k := .string s) trivial es.toList 0 hk with ⟨h1, h2⟩ | ⟨j, e, h1, h2, h3⟩
  · refine .inl ⟨?_, h2⟩
    simp [Instr.lookup, run_underlying Try.underlying36, Go.MapKept.run_getObj_map hb, Go.MapKept.run_checkKey Try.underlying9 (k := .string s) trivial, Go.MapKept.run_findKey Try.underlying9 h1, Try.zeroValue63, Result.andThen]
  · refine .inr ⟨e, List.mem_of_getElem? h2, ?_, h3⟩
    simp [Instr.lookup, run_underlying Try.underlying36, Go.MapKept.run_getObj_map hb, Go.MapKept.run_checkKey Try.underlying9 (k := .string s) trivial, Go.MapKept.run_findKey Try.underlying9 h1, Result.andThen]

set_option maxHeartbeats 800000 in
theorem put_any (g r : Nat) (es : Array MapEntry) (clock : Nat) (nm md : ByteArray) (ev : Int) (ao : Option Addr) (n c : Nat) (mr : Option Nat) (w : World) (hg : w.cell? ⟨g, 6, none⟩ = some (.map (some r)))
    (hr : w.heap[r]? = some (.map es clock)) (hk : Named es) (hno : ∀ x ∈ es.toList, x.key ≠ .string nm) :
    Calls Try.prog 9 #[.pointer (some ⟨g, 0, none⟩), .string nm, .string md, .int .i64 ev, .int .i64 0, .slice ao n c, .map mr] w fun e w' => e = .returned (.tuple #[]) ∧
      w' = { (w.alloc (.cells #[.string md, .int .i64 ev, .int .i64 0, .slice ao n c, .map mr] 65)) with heap := (w.alloc (.cells #[.string md, .int .i64 ev, .int .i64 0, .slice ao n c, .map mr] 65)).heap.setIfInBounds r (.map (es.push { key := .string nm, val := .pointer (some ⟨w.heap.size, 0, none⟩), born := clock }) (clock + 1)) } := by
  have hlt : r < w.heap.size := (Array.getElem?_eq_some_iff.1 hr).1
  have hup := upd36 (w.alloc (.cells #[.string md, .int .i64 ev, .int .i64 0, .slice ao n c, .map mr] 65)) r es clock ((Below.heap_alloc _ _ _ hlt).trans hr) hk nm hno (.pointer (some ⟨w.heap.size, 0, none⟩))
  clear hr hk hno
  go_enter Try.func9, Try.ntmps9
  go_wp2
  go_end0
  exact ⟨rfl, rfl⟩

theorem below_drewN {B : Nat} {w wr : World} (h : Below B w wr) (q : Nat) : Below B w (wr.drewN q) := h.trans ⟨rfl, rfl, rfl, Nat.le_refl _, fun _ _ => rfl⟩
def lockCells (r : Nat) : Array Value := #[.int .i32 0, .int .u32 0, .int .u32 0, .int .u32 0, .int .i32 0, .int .i32 0, .map (some r)]

/-- What Find looks up behind the lock. -/
theorem look_locked {w : World} {g r : Nat} {es : Array MapEntry} {clock : Nat} (hne : r ≠ g) (hr : w.heap[r]? = some (.map es clock)) (v : Value) : (w.setCell ⟨g, 4, none⟩ v).heap[r]? = some (.map es clock) :=
  (Below.heap_setCell _ _ _ _ hne).trans hr

set_option maxRecDepth 100000 in
set_option maxHeartbeats 1600000 in
theorem find_none (g r : Nat) (es : Array MapEntry) (clock : Nat) (q : ByteArray) (w : World) (hg : w.heap[g]? = some (.cells (lockCells r) 50 (0, 0))) (hr : w.heap[r]? = some (.map es clock)) (hk : Named es)
    (hno : ∀ x ∈ es.toList, x.key ≠ .string q) :
    Calls Try.prog 10 #[.pointer (some ⟨g, 0, none⟩), .string q] w fun e w' => e = .returned (.tuple #[.string { data := #[] }, .int .i64 0, .bool false]) ∧ Below g w w' := by
  have hne : r ≠ g := fun h => by subst h; rw [hr] at hg; cases hg
  have c0 : w.cell? ⟨g, 0, none⟩ = some (.int .i32 0) := by rw [cell_of_row w g 0 _ 50 (0, 0) hg]; rfl
  have c2 : w.cell? ⟨g, 2, none⟩ = some (.int .u32 0) := by rw [cell_of_row w g 2 _ 50 (0, 0) hg]; rfl
  have c3 : w.cell? ⟨g, 3, none⟩ = some (.int .u32 0) := by rw [cell_of_row w g 3 _ 50 (0, 0) hg]; rfl
  have c4 : w.cell? ⟨g, 4, none⟩ = some (.int .i32 0) := by rw [cell_of_row w g 4 _ 50 (0, 0) hg]; rfl
  have c6 : w.cell? ⟨g, 6, none⟩ = some (.map (some r)) := by rw [cell_of_row w g 6 _ 50 (0, 0) hg]; rfl
  have hz : w.frozen? ⟨g, 4, none⟩ = false := by simp [World.frozen?, hg]
  have hwr : wrap32 (0 + 1) = 1 := by unfold wrap32; omega
  have hwr2 : wrap32 (1 + -1) = 0 := by unfold wrap32; omega
  have c6' : (w.setCell ⟨g, 4, none⟩ (.int .i32 1)).cell? ⟨g, 6, none⟩ = some (.map (some r)) := (World.cell?_setCell_other _ ⟨g, 4, none⟩ ⟨g, 6, none⟩ _ (by simp)).trans c6
  have hlook : (Instr.lookup 36 (.map (some r)) (.string q) false).run Try.prog (w.setCell ⟨g, 4, none⟩ (.int .i32 1)) = .ok (.pointer none) (w.setCell ⟨g, 4, none⟩ (.int .i32 1)) := by
    rcases look36 (w.setCell ⟨g, 4, none⟩ (.int .i32 1)) r es clock (look_locked hne hr _) hk q with ⟨h, _⟩ | ⟨e, he, _, h⟩
    · exact h
    · exact absurd h (hno e he)
  have HB : Hid (Below g w ((w.setCell ⟨g, 4, none⟩ (.int .i32 1)).setCell ⟨g, 4, none⟩ (.int .i32 0))) := ((Below.refl g w).setCell (p := ⟨g, 4, none⟩) (Nat.le_refl _) _).setCell (p := ⟨g, 4, none⟩) (Nat.le_refl _) _
  clear hk hno hg hr
  go_enter_defers Try.func10, Try.ntmps10
  go_wp2_with (go_at_call 13; refine (rlock_open Try.rwRLib g 0 0 (.int .i32 0) (.int .u32 0) _ c0 c3 c4 hz (by rw [hwr]; omega)).mono ?_; rw [hwr]; rintro e w' ⟨rfl, rfl⟩)
  refine leaves_cons (f := 14) (args := #[.pointer (some ⟨g, 0, none⟩)]) (by simp) (by simp [go_sem]) ?_
  refine (runlock_deferred Try.rwRLib g 0 1 (.int .i32 0) (.int .u32 0) .returning _ ((World.cell?_setCell_other _ ⟨g, 4, none⟩ ⟨g, 0, none⟩ _ (by simp)).trans c0) ((World.cell?_setCell_other _ ⟨g, 4, none⟩ ⟨g, 2, none⟩ _ (by simp)).trans c2) (World.cell?_setCell_same w _ _ c4) (by simp [hz]) (by rw [hwr2]; omega)).mono ?_
  rw [hwr2]
  rintro e u' w'' ⟨rfl, rfl, rfl⟩
  exact ⟨_, results_tmp3 rfl _ _ _, rfl, HB.out⟩

set_option maxRecDepth 100000 in
set_option maxHeartbeats 1600000 in
theorem find_some (g r : Nat) (es : Array MapEntry) (clock : Nat) (q md : ByteArray) (ev : Int) (pb : Nat) (w : World) (hg : w.heap[g]? = some (.cells (lockCells r) 50 (0, 0))) (hr : w.heap[r]? = some (.map es clock)) (hk : Named es)
    (hyes : ∀ x ∈ es.toList, x.key = .string q → x.val = .pointer (some ⟨pb, 0, none⟩)) (hin : ∃ x ∈ es.toList, x.key = .string q) (hpg : pb ≠ g) (p0 : w.cell? ⟨pb, 0, none⟩ = some (.string md)) (p1 : w.cell? ⟨pb, 1, none⟩ = some (.int .i64 ev)) :
    Calls Try.prog 10 #[.pointer (some ⟨g, 0, none⟩), .string q] w fun e w' => e = .returned (.tuple #[.string md, .int .i64 ev, .bool true]) ∧ Below g w w' := by
  have hne : r ≠ g := fun h => by subst h; rw [hr] at hg; cases hg
  have c0 : w.cell? ⟨g, 0, none⟩ = some (.int .i32 0) := by rw [cell_of_row w g 0 _ 50 (0, 0) hg]; rfl
  have c2 : w.cell? ⟨g, 2, none⟩ = some (.int .u32 0) := by rw [cell_of_row w g 2 _ 50 (0, 0) hg]; rfl
  have c3 : w.cell? ⟨g, 3, none⟩ = some (.int .u32 0) := by rw [cell_of_row w g 3 _ 50 (0, 0) hg]; rfl
  have c4 : w.cell? ⟨g, 4, none⟩ = some (.int .i32 0) := by rw [cell_of_row w g 4 _ 50 (0, 0) hg]; rfl
  have c6 : w.cell? ⟨g, 6, none⟩ = some (.map (some r)) := by rw [cell_of_row w g 6 _ 50 (0, 0) hg]; rfl
  have hz : w.frozen? ⟨g, 4, none⟩ = false := by simp [World.frozen?, hg]
  have hwr : wrap32 (0 + 1) = 1 := by unfold wrap32; omega
  have hwr2 : wrap32 (1 + -1) = 0 := by unfold wrap32; omega
  have c6' : (w.setCell ⟨g, 4, none⟩ (.int .i32 1)).cell? ⟨g, 6, none⟩ = some (.map (some r)) := (World.cell?_setCell_other _ ⟨g, 4, none⟩ ⟨g, 6, none⟩ _ (by simp)).trans c6
  have hlook : (Instr.lookup 36 (.map (some r)) (.string q) false).run Try.prog (w.setCell ⟨g, 4, none⟩ (.int .i32 1)) = .ok (.pointer (some ⟨pb, 0, none⟩)) (w.setCell ⟨g, 4, none⟩ (.int .i32 1)) := by
    rcases look36 (w.setCell ⟨g, 4, none⟩ (.int .i32 1)) r es clock (look_locked hne hr _) hk q with ⟨_, h⟩ | ⟨e, he, h1, h2⟩
    · obtain ⟨x, hx1, hx2⟩ := hin
      exact absurd hx2 (h x hx1)
    · rw [h1, hyes e he h2]
  have p0' : (w.setCell ⟨g, 4, none⟩ (.int .i32 1)).cell? ⟨pb, 0, none⟩ = some (.string md) := (World.cell?_setCell_other _ ⟨g, 4, none⟩ ⟨pb, 0, none⟩ _ (by simp [hpg])).trans p0
  have p1' : (w.setCell ⟨g, 4, none⟩ (.int .i32 1)).cell? ⟨pb, 1, none⟩ = some (.int .i64 ev) := (World.cell?_setCell_other _ ⟨g, 4, none⟩ ⟨pb, 1, none⟩ _ (by simp [hpg])).trans p1
  have HB : Hid (Below g w ((w.setCell ⟨g, 4, none⟩ (.int .i32 1)).setCell ⟨g, 4, none⟩ (.int .i32 0))) := ((Below.refl g w).setCell (p := ⟨g, 4, none⟩) (Nat.le_refl _) _).setCell (p := ⟨g, 4, none⟩) (Nat.le_refl _) _
  clear hk hyes hin hg hr p0 p1
  go_enter_defers Try.func10, Try.ntmps10
  go_wp2_with (go_at_call 13; refine (rlock_open Try.rwRLib g 0 0 (.int .i32 0) (.int .u32 0) _ c0 c3 c4 hz (by rw [hwr]; omega)).mono ?_; rw [hwr]; rintro e w' ⟨rfl, rfl⟩)
  go_quiet (fail)
  go_wp2
  refine leaves_cons (f := 14) (args := #[.pointer (some ⟨g, 0, none⟩)]) (by simp) (by simp [go_sem]) ?_
  refine (runlock_deferred Try.rwRLib g 0 1 (.int .i32 0) (.int .u32 0) .returning _ ?_ ?_ ?_ ?_ ?_).mono ?_
  · exact (World.cell?_setCell_other w ⟨g, 4, none⟩ ⟨g, 0, none⟩ (.int .i32 1) (by simp)).trans c0
  · exact (World.cell?_setCell_other w ⟨g, 4, none⟩ ⟨g, 2, none⟩ (.int .i32 1) (by simp)).trans c2
  · exact World.cell?_setCell_same w _ (.int .i32 1) c4
  · exact (World.frozen?_setCell w ⟨g, 4, none⟩ ⟨g, 4, none⟩ (.int .i32 1)).trans hz
  · rw [hwr2]; omega
  rw [hwr2]
  rintro e u' w'' ⟨rfl, rfl, rfl⟩
  exact ⟨_, results_tmp3 rfl _ _ _, rfl, (below_drewN ((Below.refl g w).setCell (p := ⟨g, 4, none⟩) (Nat.le_refl _) _) _).setCell (p := ⟨g, 4, none⟩) (Nat.le_refl _) _⟩
end Go.Proofs.Qxb6606003a
