import Derived.Test.Qxb6605917aTime
import Derived.Test.Qxb6605917aLocks
import Derived.Test.Qxb6605917aOwn
namespace Go.Proofs.Qxb6605917a
open Go.RowKit
set_option linter.unusedVariables false
set_option linter.unusedSimpArgs false

def qcells (m : Int) (rv dv bv : Value) : Array Value := #[.chan none, .int .i32 m, .int .u32 0, .pointer none, .int .i64 0, .map none, .int .u64 0, rv, dv, bv]
/-- The queue's own block: its mutex's state word, its three slices. -/
def QB (B : Nat) (w : World) (m : Int) (rv dv bv : Value) : Prop := w.heap[B]? = some (.cells (qcells m rv dv bv) 57 (0, 0))

theorem QB.lt {B : Nat} {w : World} {m : Int} {rv dv bv : Value} (h : QB B w m rv dv bv) : B < w.heap.size := (Array.getElem?_eq_some_iff.1 h).1
theorem QB.cell {B : Nat} {w : World} {m : Int} {rv dv bv : Value} (h : QB B w m rv dv bv) (o : Nat) : w.cell? ⟨B, o, none⟩ = (qcells m rv dv bv)[o]? := cell_of_row w B o _ 57 (0, 0) h
theorem QB.cell1 {B : Nat} {w : World} {m : Int} {rv dv bv : Value} (h : QB B w m rv dv bv) : w.cell? ⟨B, 1, none⟩ = some (.int .i32 m) := by rw [h.cell]; rfl
theorem QB.cell7 {B : Nat} {w : World} {m : Int} {rv dv bv : Value} (h : QB B w m rv dv bv) : w.cell? ⟨B, 7, none⟩ = some rv := by rw [h.cell]; rfl
theorem QB.cell8 {B : Nat} {w : World} {m : Int} {rv dv bv : Value} (h : QB B w m rv dv bv) : w.cell? ⟨B, 8, none⟩ = some dv := by rw [h.cell]; rfl
theorem QB.cell9 {B : Nat} {w : World} {m : Int} {rv dv bv : Value} (h : QB B w m rv dv bv) : w.cell? ⟨B, 9, none⟩ = some bv := by rw [h.cell]; rfl
theorem QB.frozen {B : Nat} {w : World} {m : Int} {rv dv bv : Value} (h : QB B w m rv dv bv) (o : Nat) : w.frozen? ⟨B, o, none⟩ = false := by
  unfold QB at h
  simp [World.frozen?, h]
theorem QB.of_block {B : Nat} {w w' : World} {m : Int} {rv dv bv : Value} (h : QB B w m rv dv bv) (hb : w'.heap[B]? = w.heap[B]?) : QB B w' m rv dv bv := hb.trans h
theorem QB.set {B : Nat} {w : World} {m : Int} {rv dv bv : Value} (h : QB B w m rv dv bv) (o : Nat) (v : Value) : (w.setCell ⟨B, o, none⟩ v).heap[B]? = some (.cells ((qcells m rv dv bv).setIfInBounds o v) 57 (0, 0)) := by
  unfold QB at h
  simp [World.setCell, Array.getElem?_modify, h]
theorem QB.set1 {B : Nat} {w : World} {m : Int} {rv dv bv : Value} (h : QB B w m rv dv bv) (n : Int) : QB B (w.setCell ⟨B, 1, none⟩ (.int .i32 n)) n rv dv bv := h.set 1 _
theorem QB.set7 {B : Nat} {w : World} {m : Int} {rv dv bv : Value} (h : QB B w m rv dv bv) (v : Value) : QB B (w.setCell ⟨B, 7, none⟩ v) m v dv bv := h.set 7 _
theorem QB.set8 {B : Nat} {w : World} {m : Int} {rv dv bv : Value} (h : QB B w m rv dv bv) (v : Value) : QB B (w.setCell ⟨B, 8, none⟩ v) m rv v bv := h.set 8 _
theorem QB.set9 {B : Nat} {w : World} {m : Int} {rv dv bv : Value} (h : QB B w m rv dv bv) (v : Value) : QB B (w.setCell ⟨B, 9, none⟩ v) m rv dv v := h.set 9 _

def strs (rs : List ByteArray) : List Value := rs.map .string
def dcell (d : ByteArray × Int) : List Value := [.string d.1, .int .u64 (d.2 % 1000000000), .int .i64 (d.2 / 1000000000), .pointer none]
def dcells (ds : List (ByteArray × Int)) : List Value := ds.flatMap dcell
/-- Two slice values do not live in one block. -/
def Apart (u v : Value) : Prop := ∀ k, u.ownBlock = some k → v.ownBlock ≠ some k

/-- The queue while it is filled: each of its slices is a row of its own. -/
def QP (B : Nat) (w : World) (rs : List ByteArray) (ds : List (ByteArray × Int)) (bs : List ByteArray) : Prop :=
  ∃ rv dv bv, QB B w 0 rv dv bv ∧ w.ownsRow (B + 1) 9 1 rv rs.length (strs rs) ∧ w.ownsRow (B + 1) 63 4 dv ds.length (dcells ds) ∧ w.ownsRow (B + 1) 9 1 bv bs.length (strs bs) ∧ Apart rv dv ∧ Apart rv bv ∧ Apart dv bv

theorem Apart.symm {u v : Value} (h : Apart u v) : Apart v u := fun k hk hu => h k hu hk
theorem Apart.kept {u v : Value} (h : Apart u v) : u.ownBlock = none ∨ u.ownBlock ≠ v.ownBlock := by
  cases hu : u.ownBlock with
  | none => exact .inl rfl
  | some k => exact .inr (fun e => h k hu e.symm)

set_option maxHeartbeats 400000 in
theorem newQueue_any (w : World) :
    Calls Try.prog 10 #[] w fun e w' => e = .returned (.pointer (some ⟨w.heap.size, 0, none⟩)) ∧ w' = w.alloc (.cells #[.chan none, .int .i32 0, .int .u32 0, .pointer none, .int .i64 0, .map none, .int .u64 0, .slice none 0 0, .slice none 0 0, .slice none 0 0] 57) := by
  go_enter Try.func10, Try.ntmps10
  go_wp2
  go_ret
  exact ⟨rfl, rfl⟩

theorem qp_start (w : World) : QP w.heap.size (w.alloc (.cells #[.chan none, .int .i32 0, .int .u32 0, .pointer none, .int .i64 0, .map none, .int .u64 0, .slice none 0 0, .slice none 0 0, .slice none 0 0] 57)) [] [] [] :=
  ⟨.slice none 0 0, .slice none 0 0, .slice none 0 0, heap_alloc_new w _, World.ownsRow_nil _ _ _ _, World.ownsRow_nil _ _ _ _, World.ownsRow_nil _ _ _ _, fun k hk => by simp [Value.ownBlock] at hk, fun k hk => by simp [Value.ownBlock] at hk, fun k hk => by simp [Value.ownBlock] at hk⟩

theorem Try.info9 : (Try.prog.info? 9).map (fun i => (i.zero, i.size, i.bytes)) = some (some (.string ByteArray.empty), 1, 16) := by kernel_rfl
theorem Try.info63 : (Try.prog.info? 63).map (fun i => (i.zero, i.size, i.bytes)) = some (some (.agg #[.string ByteArray.empty, .int .u64 0, .int .i64 0, .pointer none]), 4, 40) := by kernel_rfl

/-- What an append onto one of the rows, and the store of it into the queue's field, leave of another row. -/
theorem own_after {w w1 : World} {B e size n : Nat} {v rv v' : Value} {xs : List Value} {o : Obj} {off : Nat} (h : w.ownsRow (B + 1) e size v n xs) (hg : (w.alloc o).grownBy w1 rv.ownBlock) (ha : Apart v rv) : (w1.setCell ⟨B, off, none⟩ v').ownsRow (B + 1) e size v n xs :=
  ownsRow_setCell_below ((h.alloc o).kept hg ha.kept) (by show B < B + 1; omega) v'

theorem Apart.stays {w : World} {o : Obj} {B e size n : Nat} {v v' u : Value} {xs : List Value} (h : w.ownsRow B e size u n xs) (ha : Apart v u) (hs : Stays (w.alloc o) v v') : Apart v' u := fun k hk hu => by
  rcases hs k hk with h1 | h1
  · exact ha k h1 hu
  · have := (h.lt k hu).2
    simp at h1
    omega

theorem ne_own {w : World} {B e size n : Nat} {v : Value} {xs : List Value} (h : w.ownsRow (B + 1) e size v n xs) : some B ≠ v.ownBlock := fun h1 => by have := (h.lt B h1.symm).1; omega

theorem form {w : World} {B e size n : Nat} {v : Value} {xs : List Value} (h : w.ownsRow B e size v (n + 1) xs) : ∃ g cap, v = .slice (some ⟨g, 0, none⟩) (n + 1) cap := by
  rcases h.2 with ⟨_, h0⟩ | ⟨g, cap, cur, hv, _⟩
  · omega
  · exact ⟨g, cap, hv⟩

/-- Behind the append onto the row rv (in the world w with one block more): the queue's own block is as it was. -/
theorem qb_grown {w w1 : World} {B e size n : Nat} {m : Int} {rv dv bv v : Value} {xs : List Value} {o : Obj} (hq : QB B w m rv dv bv) (hr : w.ownsRow (B + 1) e size v n xs) (hg : (w.alloc o).grownBy w1 v.ownBlock) : QB B w1 m rv dv bv :=
  hq.of_block ((hg.block B (by have := hq.lt; simp; omega) (ne_own hr)).trans (heap_alloc_old w o hq.lt))

theorem below_grown {w w1 : World} {B e size n off : Nat} {v u : Value} {xs : List Value} {o : Obj} (hB : B < w.heap.size) (hr : w.ownsRow (B + 1) e size v n xs) (hg : (w.alloc o).grownBy w1 v.ownBlock) : Below B w (w1.setCell ⟨B, off, none⟩ u) :=
  (((Below.refl B w).alloc (by omega) _).grown hg (by simp; omega) (fun k hk => by have := (hr.lt k hk).1; omega)).setCell (Nat.le_refl B) _

theorem qp_ready {w w1 : World} {B : Nat} {rv dv bv v' : Value} {rs bs : List ByteArray} {ds : List (ByteArray × Int)} {x : ByteArray} {o : Obj} (hq : QB B w 0 rv dv bv) (hr : w.ownsRow (B + 1) 9 1 rv rs.length (strs rs)) (hd : w.ownsRow (B + 1) 63 4 dv ds.length (dcells ds)) (hb : w.ownsRow (B + 1) 9 1 bv bs.length (strs bs))
    (a1 : Apart rv dv) (a2 : Apart rv bv) (a3 : Apart dv bv) (hown : w1.ownsRow (B + 1) 9 1 v' (rs.length + 1) (strs rs ++ [.string x])) (hg : (w.alloc o).grownBy w1 rv.ownBlock) (hst : Stays (w.alloc o) rv v') : QP B (w1.setCell ⟨B, 7, none⟩ v') (rs ++ [x]) ds bs := by
  refine ⟨v', dv, bv, (qb_grown hq hr hg).set7 _, ?_, own_after hd hg a1.symm, own_after hb hg a2.symm, a1.stays hd hst, a2.stays hb hst, a3⟩
  have := ownsRow_setCell_below hown (a := ⟨B, 7, none⟩) (by show B < B + 1; omega) v'
  simpa [strs] using this

theorem qp_busy {w w1 : World} {B : Nat} {rv dv bv v' : Value} {rs bs : List ByteArray} {ds : List (ByteArray × Int)} {x : ByteArray} {o : Obj} (hq : QB B w 0 rv dv bv) (hr : w.ownsRow (B + 1) 9 1 rv rs.length (strs rs)) (hd : w.ownsRow (B + 1) 63 4 dv ds.length (dcells ds)) (hb : w.ownsRow (B + 1) 9 1 bv bs.length (strs bs))
    (a1 : Apart rv dv) (a2 : Apart rv bv) (a3 : Apart dv bv) (hown : w1.ownsRow (B + 1) 9 1 v' (bs.length + 1) (strs bs ++ [.string x])) (hg : (w.alloc o).grownBy w1 bv.ownBlock) (hst : Stays (w.alloc o) bv v') : QP B (w1.setCell ⟨B, 9, none⟩ v') rs ds (bs ++ [x]) := by
  refine ⟨rv, dv, v', (qb_grown hq hb hg).set9 _, own_after hr hg a2, own_after hd hg a3, ?_, a1, (a2.symm.stays hr hst).symm, (a3.symm.stays hd hst).symm⟩
  have := ownsRow_setCell_below hown (a := ⟨B, 9, none⟩) (by show B < B + 1; omega) v'
  simpa [strs] using this

theorem qp_deferred {w w1 : World} {B : Nat} {rv dv bv v' : Value} {rs bs : List ByteArray} {ds : List (ByteArray × Int)} {d : ByteArray × Int} {o : Obj} (hq : QB B w 0 rv dv bv) (hr : w.ownsRow (B + 1) 9 1 rv rs.length (strs rs)) (hd : w.ownsRow (B + 1) 63 4 dv ds.length (dcells ds)) (hb : w.ownsRow (B + 1) 9 1 bv bs.length (strs bs))
    (a1 : Apart rv dv) (a2 : Apart rv bv) (a3 : Apart dv bv) (hown : w1.ownsRow (B + 1) 63 4 v' (ds.length + 1) (dcells ds ++ dcell d)) (hg : (w.alloc o).grownBy w1 dv.ownBlock) (hst : Stays (w.alloc o) dv v') : QP B (w1.setCell ⟨B, 8, none⟩ v') rs (ds ++ [d]) bs := by
  refine ⟨rv, v', bv, (qb_grown hq hd hg).set8 _, own_after hr hg a1, ?_, own_after hb hg a3.symm, (a1.symm.stays hr hst).symm, a2, a3.stays hb hst⟩
  have := ownsRow_setCell_below hown (a := ⟨B, 8, none⟩) (by show B < B + 1; omega) v'
  simpa [dcells] using this

set_option maxRecDepth 100000 in
set_option maxHeartbeats 400000 in
theorem pushReady_any (B : Nat) (x : ByteArray) (rs : List ByteArray) (ds : List (ByteArray × Int)) (bs : List ByteArray) (w : World) (h : QP B w rs ds bs) (hn : rs.length ≤ 1048576) :
    Calls Try.prog 11 #[.pointer (some ⟨B, 0, none⟩), .string x] w fun e w' => e = .returned (.tuple #[]) ∧ QP B w' (rs ++ [x]) ds bs ∧ Below B w w' := by
  obtain ⟨rv, dv, bv, hq, hr, hd, hb, a1, a2, a3⟩ := h
  obtain ⟨i, hi, hz0, hz1, hz2⟩ := info_parts Try.info9
  have c7 := hq.cell7
  have f7 := hq.frozen 7
  have hB := hq.lt
  go_enter Try.func11, Try.ntmps11
  go_wp2_with (at_builtin; refine list_append_own2 _ rfl (.tmp 8) (.tmp 10) 22 rfl (B + 1) 9 i (.string ByteArray.empty) 1 16 Try.underlying22 hi hz0 hz1 hz2 rfl (by decide) rv rs.length _ rfl (hr.alloc _) ⟨w.heap.size, 0, none⟩ 1 1 [.string x] rfl rfl ?c1 ?c2 (by unfold maxLen; omega) (by omega) (by simp; omega) ?_)
  case c1 => exact cell_one_new _ _ _
  case c2 => intro u hu; simp at hu; subst hu; rfl
  intro v' w1 hown' hgrow hst
  have R := qp_ready hq hr hd hb a1 a2 a3 hown' hgrow hst
  have R2 : Below B w (w1.setCell ⟨B, 7, none⟩ v') := below_grown hB hr hgrow
  have hq1 := qb_grown hq hr hgrow
  have c7' := hq1.cell7
  have f7' := hq1.frozen 7
  obtain ⟨g, cap, hv⟩ := form hown'
  clear hq hr hd hb a1 a2 a3 hown' hgrow hst hq1 c7 f7
  rw [hv] at R R2 ⊢
  go_wp2
  go_end0
  exact ⟨rfl, R, R2⟩

set_option maxRecDepth 100000 in
set_option maxHeartbeats 400000 in
theorem pushBusy_any (B : Nat) (x : ByteArray) (rs : List ByteArray) (ds : List (ByteArray × Int)) (bs : List ByteArray) (w : World) (h : QP B w rs ds bs) (hn : bs.length ≤ 1048576) :
    Calls Try.prog 13 #[.pointer (some ⟨B, 0, none⟩), .string x] w fun e w' => e = .returned (.tuple #[]) ∧ QP B w' rs ds (bs ++ [x]) ∧ Below B w w' := by
  obtain ⟨rv, dv, bv, hq, hr, hd, hb, a1, a2, a3⟩ := h
  obtain ⟨i, hi, hz0, hz1, hz2⟩ := info_parts Try.info9
  have c7 := hq.cell9
  have f7 := hq.frozen 9
  have hB := hq.lt
  go_enter Try.func13, Try.ntmps13
  go_wp2_with (at_builtin; refine list_append_own2 _ rfl (.tmp 8) (.tmp 10) 22 rfl (B + 1) 9 i (.string ByteArray.empty) 1 16 Try.underlying22 hi hz0 hz1 hz2 rfl (by decide) bv bs.length _ rfl (hb.alloc _) ⟨w.heap.size, 0, none⟩ 1 1 [.string x] rfl rfl ?c1 ?c2 (by unfold maxLen; omega) (by omega) (by simp; omega) ?_)
  case c1 => exact cell_one_new _ _ _
  case c2 => intro u hu; simp at hu; subst hu; rfl
  intro v' w1 hown' hgrow hst
  have R := qp_busy hq hr hd hb a1 a2 a3 hown' hgrow hst
  have R2 : Below B w (w1.setCell ⟨B, 9, none⟩ v') := below_grown hB hb hgrow
  have hq1 := qb_grown hq hb hgrow
  have c7' := hq1.cell9
  have f7' := hq1.frozen 9
  obtain ⟨g, cap, hv⟩ := form hown'
  clear hq hr hd hb a1 a2 a3 hown' hgrow hst hq1 c7 f7
  rw [hv] at R R2 ⊢
  go_wp2
  go_end0
  exact ⟨rfl, R, R2⟩
end Go.Proofs.Qxb6605917a
