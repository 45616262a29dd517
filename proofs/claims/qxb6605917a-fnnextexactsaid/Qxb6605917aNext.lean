import Derived.Test.Qxb6605917aPromote
import Derived.Conc.MuLone
import Derived.Defers
namespace Go.Proofs.Qxb6605917a
open Go.RowKit Go.MuLone
set_option linter.unusedVariables false
set_option linter.unusedSimpArgs false

set_option maxRecDepth 100000 in
set_option maxHeartbeats 800000 in
theorem promote_none (B : Nat) (t : Int) (rs bs : List ByteArray) (rv bv : Value) (w : World) (hI : QI 1 B w rs [] bs rv (.slice none 0 0) bv) :
    Calls Try.prog 28 #[.pointer (some ⟨B, 0, none⟩), .agg #[.int .u64 (t % 1000000000), .int .i64 (t / 1000000000), .pointer none]] w fun e w' => e = .returned (.tuple #[]) ∧ After 1 B w rs [] bs rv (.slice none 0 0) bv t w' := by
  obtain ⟨a, ha0⟩ : ∃ a, t % 1000000000 = a := ⟨_, rfl⟩
  obtain ⟨s, hs0⟩ : ∃ s, t / 1000000000 = s := ⟨_, rfl⟩
  rw [ha0, hs0]
  clear ha0 hs0
  have hB := hI.q.lt
  obtain ⟨W, hW⟩ : ∃ W, w.alloc (.cells #[.int .u64 a, .int .i64 s, .pointer none] 60) = W := ⟨_, rfl⟩
  have hWb : Below w.heap.size w W := by rw [← hW]; exact (Below.refl _ _).alloc (Nat.le_refl _) _
  go_enter Try.func28, Try.ntmps28
  go_wp2
  clear hW
  refine wp_loop_rounds 1 ?_
  rw [rounds_succ]
  have zB : B < W.heap.size := by have := hWb.size; omega
  obtain ⟨ι, hι, F, hF, hF'⟩ := fam W.heap.size W
  have g0 : ∀ x, (F x).cell? ⟨B, 8, none⟩ = _ := fun x => ((hF x).cell (p := ⟨B, 8, none⟩) zB).trans (qb_below hI.q hWb).cell8
  go_wp2_with fail
  refine wp_region_family F (by kernel_rfl) (by kernel_rfl) (hF'.out _ (Below.refl _ _).drew) ?_
  repeat (go_big_quiet_step (fail))
  refine wpQuiet_nil ?_
  rintro _ ⟨z, rfl⟩
  have hz := hF z
  have hwz : Below w.heap.size w (F z) := hWb.trans (hz.mono hWb.size)
  have g8 := g0 z
  clear g0 hF'
  generalize F z = wf at *
  clear hF F
  have hq := qb_below hI.q hwz
  have f8 := hq.frozen 8
  have fr : Fr B rv w (wf.setCell ⟨B, 8, none⟩ (.slice none 0 0)) := (Fr.of_below hwz).setCell _ _
  have fin : After 1 B w rs [] bs rv (.slice none 0 0) bv t (wf.setCell ⟨B, 8, none⟩ (.slice none 0 0)) := by
    refine ⟨rv, .slice none 0 0, ⟨hq.set8 _, ?_, ⟨none, 0, rfl, by simp [later], by unfold maxLen; omega, .inl ⟨rfl, rfl, rfl⟩⟩, own_fr hI.b fr hI.apart.symm, hI.apart⟩, fr, fun k hk => .inl hk, fun k hk => hk⟩
    have := ownsRow_setCell_below (own_below hI.r hwz) (a := ⟨B, 8, none⟩) (by show B < B + 1; omega) (.slice none 0 0)
    simpa [due] using this
  clear hI hq fr
  go_wp2
  go_end0
  exact ⟨rfl, fin⟩

theorem promote_any (B : Nat) (t : Int) (rs bs : List ByteArray) (ds : List (ByteArray × Int)) (rv dv bv : Value) (w : World) (hI : QI 1 B w rs ds bs rv dv bv) (hl : rs.length + ds.length ≤ 1048576) :
    Calls Try.prog 28 #[.pointer (some ⟨B, 0, none⟩), .agg #[.int .u64 (t % 1000000000), .int .i64 (t / 1000000000), .pointer none]] w fun e w' => e = .returned (.tuple #[]) ∧ After 1 B w rs ds bs rv dv bv t w' := by
  obtain ⟨ao, cap, hv, h1, h2, h3⟩ := hI.d
  rcases h3 with ⟨rfl, rfl, rfl⟩ | ⟨g, off, rfl, hd, ha⟩
  · have hv' : dv = .slice none 0 0 := hv
    subst hv'
    exact promote_none B t rs bs rv bv w hI
  · subst hv
    exact promote_some B g off cap t rs bs ds rv bv w hI.q hI.r hd ha hI.b hI.apart h1 h2 hl

theorem DV.moved {w w' : World} {B : Nat} {rv dv : Value} {ds : List (ByteArray × Int)} (h : DV w B rv dv ds) (hs : w.heap.size ≤ w'.heap.size) (hb : ∀ k, dv.ownBlock = some k → k ≠ B → w'.heap[k]? = w.heap[k]?) : DV w' B rv dv ds := by
  obtain ⟨ao, cap, hv, h1, h2, h3⟩ := h
  refine ⟨ao, cap, hv, h1, h2, ?_⟩
  rcases h3 with h3 | ⟨g, off, rfl, hd, ha⟩
  · exact .inl h3
  · refine .inr ⟨g, off, rfl, ?_, ha⟩
    have hg := hb g (by rw [hv]; rfl) (by have := hd.1; omega)
    exact ⟨hd.1, Nat.lt_of_lt_of_le hd.2.1 hs, fun i d hi => by
      rw [World.cell?_of_block (w := w) (a := ⟨g, off + i * 4, none⟩) hg, World.cell?_of_block (w := w) (a := ⟨g, off + i * 4 + 1, none⟩) hg, World.cell?_of_block (w := w) (a := ⟨g, off + i * 4 + 2, none⟩) hg, World.cell?_of_block (w := w) (a := ⟨g, off + i * 4 + 3, none⟩) hg]
      exact hd.2.2 i d hi⟩

theorem DV.lt {w : World} {B : Nat} {rv dv : Value} {ds : List (ByteArray × Int)} (h : DV w B rv dv ds) : ∀ k, dv.ownBlock = some k → B < k ∧ k < w.heap.size := by
  obtain ⟨ao, cap, hv, _, _, h3⟩ := h
  intro k hk
  rw [hv] at hk
  rcases h3 with ⟨rfl, _⟩ | ⟨g, off, rfl, hd, _⟩
  · simp [Value.ownBlock] at hk
  · simp [Value.ownBlock] at hk; subst hk; exact ⟨hd.1, hd.2.1⟩

theorem own_moved {w w' : World} {B e size n : Nat} {v : Value} {xs : List Value} (h : w.ownsRow (B + 1) e size v n xs) (hb : ∀ k, v.ownBlock = some k → k ≠ B → w'.heap[k]? = w.heap[k]?) : w'.ownsRow (B + 1) e size v n xs := by
  refine ⟨h.1, ?_⟩
  rcases h.2 with h2 | ⟨g, cap, cur, hv, hg, hh, r⟩
  · exact .inl h2
  · exact .inr ⟨g, cap, cur, hv, hg, (hb g (by rw [hv]; rfl) (by omega)).trans hh, r⟩

/-- The queue in a world that differs in the queue's own block and in blocks that none of its slices has. -/
theorem QI.moved {m m' : Int} {B : Nat} {w w' : World} {rs bs : List ByteArray} {ds : List (ByteArray × Int)} {rv dv bv : Value} (h : QI m B w rs ds bs rv dv bv) (hq : QB B w' m' rv dv bv) (hs : w.heap.size ≤ w'.heap.size)
    (hb : ∀ k, k < w.heap.size → (rv.ownBlock = some k ∨ dv.ownBlock = some k ∨ bv.ownBlock = some k) → k ≠ B → w'.heap[k]? = w.heap[k]?) : QI m' B w' rs ds bs rv dv bv :=
  ⟨hq, own_moved h.r (fun k hk hB => hb k (h.r.lt k hk).2 (.inl hk) hB), h.d.moved hs (fun k hk hB => hb k (h.d.lt k hk).2 (.inr (.inl hk)) hB), own_moved h.b (fun k hk hB => hb k (h.b.lt k hk).2 (.inr (.inr hk)) hB), h.apart⟩

/-- The time that next names, and whether it names one. -/
def nextT (t : Int) (rs : List ByteArray) (ds : List (ByteArray × Int)) : Int := if rs = [] ∧ due t ds = [] then (match later t ds with | [] => 0 | d :: _ => d.2) else t
def nextOk (rs : List ByteArray) (ds : List (ByteArray × Int)) : Bool := !(rs.isEmpty && ds.isEmpty)

theorem QI.lock {B : Nat} {w : World} {rs bs : List ByteArray} {ds : List (ByteArray × Int)} {rv dv bv : Value} (h : QI 0 B w rs ds bs rv dv bv) (o1 o2 : Obj) : QI 1 B (((w.setCell ⟨B, 1, none⟩ (.int .i32 1)).alloc o1).alloc o2) rs ds bs rv dv bv := by
  have hb : Below (w.setCell ⟨B, 1, none⟩ (.int .i32 1)).heap.size (w.setCell ⟨B, 1, none⟩ (.int .i32 1)) (((w.setCell ⟨B, 1, none⟩ (.int .i32 1)).alloc o1).alloc o2) := ((Below.refl _ _).alloc (Nat.le_refl _) _).alloc (by simp) _
  have hs : (w.setCell ⟨B, 1, none⟩ (.int .i32 1)).heap.size = w.heap.size := by simp [World.setCell]
  refine h.moved (qb_below (h.q.set1 1) hb) (by have := hb.size; omega) (fun k hk _ hB => ?_)
  rw [hb.block k (by omega)]
  exact Below.heap_setCell _ _ _ _ hB

theorem fr_lock {B : Nat} {w : World} (rv : Value) (o1 o2 : Obj) (v : Value) : Fr B rv w (((w.setCell ⟨B, 1, none⟩ v).alloc o1).alloc o2) :=
  ((Fr.refl B rv w).setCell 1 v).trans (Fr.of_below (((Below.refl _ _).alloc (Nat.le_refl _) _).alloc (by simp) _)) (fun k hk => .inl hk)

/-- Behind next's own text: the result is stored in its block, the mutex is let go. -/
theorem After.unlock {B : Nat} {w w2 w3 : World} {rs bs : List ByteArray} {ds : List (ByteArray × Int)} {rv dv bv : Value} {t : Int} {o1 o2 : Obj} (hr : ∀ k, rv.ownBlock = some k → k < w.heap.size) (hdv : ∀ k, dv.ownBlock = some k → k < w.heap.size) (hbv : ∀ k, bv.ownBlock = some k → k < w.heap.size)
    (A : After 1 B (((w.setCell ⟨B, 1, none⟩ (.int .i32 1)).alloc o1).alloc o2) rs ds bs rv dv bv t w2)
    (hB : B < w.heap.size) (os : w3.os = w2.os) (tape : w3.tape = w2.tape) (output : w3.output = w2.output) (size : w2.heap.size ≤ w3.heap.size) (blk : ∀ k, k ≠ B → k ≠ w.heap.size + 1 → w3.heap[k]? = w2.heap[k]?)
    (hq : ∀ rv' dv', QB B w2 1 rv' dv' bv → QB B w3 0 rv' dv' bv) : After 0 B w rs ds bs rv dv bv t w3 := by
  obtain ⟨rv', dv', Q, fr, st, hd⟩ := A
  have hsz : (((w.setCell ⟨B, 1, none⟩ (.int .i32 1)).alloc o1).alloc o2).heap.size = w.heap.size + 2 := by simp [World.setCell]
  have st' : Stays w rv rv' := fun k hk => by
    rcases st k hk with h1 | h1
    · exact .inl h1
    · exact .inr (by omega)
  refine ⟨rv', dv', Q.moved (hq rv' dv' Q.q) size (fun k _ hk hkB => blk k hkB ?_), ?_, st', hd⟩
  · rcases hk with hk | hk | hk
    · rcases st k hk with h1 | h1
      · have := hr k h1; omega
      · omega
    · have := hdv k (hd k hk); omega
    · have := hbv k hk; omega
  · have f0 := (fr_lock (B := B) (w := w) rv o1 o2 (.int .i32 1)).trans fr (fun k hk => .inl hk)
    exact ⟨os.trans f0.os, tape.trans f0.tape, output.trans f0.output, Nat.le_trans f0.size size, fun k hk hkB hkr => (blk k hkB (by omega)).trans (f0.block k hk hkB hkr)⟩
end Go.Proofs.Qxb6605917a
