import Derived.Test.Qxb6605917aPushD
import Derived.Deep.LoopGhost
namespace Go.Proofs.Qxb6605917a
open Go.RowKit
set_option linter.unusedVariables false
set_option linter.unusedSimpArgs false

/-- What a call on the queue leaves: its own block and the row of its ready articles may have turned, and there may be new blocks. -/
structure Fr (B : Nat) (rv : Value) (w w' : World) : Prop where
  os : w'.os = w.os
  tape : w'.tape = w.tape
  output : w'.output = w.output
  size : w.heap.size ≤ w'.heap.size
  block : ∀ k, k < w.heap.size → k ≠ B → rv.ownBlock ≠ some k → w'.heap[k]? = w.heap[k]?

theorem Fr.refl (B : Nat) (rv : Value) (w : World) : Fr B rv w w := ⟨rfl, rfl, rfl, Nat.le_refl _, fun _ _ _ _ => rfl⟩
theorem Fr.trans {B : Nat} {rv rv' : Value} {a b c : World} (h : Fr B rv a b) (k : Fr B rv' b c) (hs : Stays a rv rv') : Fr B rv a c :=
  ⟨k.os.trans h.os, k.tape.trans h.tape, k.output.trans h.output, Nat.le_trans h.size k.size, fun i hi hB hr =>
    (k.block i (Nat.lt_of_lt_of_le hi h.size) hB (fun e => by rcases hs i e with h1 | h1; exact hr h1; omega)).trans (h.block i hi hB hr)⟩
theorem Fr.of_below {B : Nat} {rv : Value} {w w' : World} (h : Below w.heap.size w w') : Fr B rv w w' := ⟨h.os, h.tape, h.output, h.size, fun k hk _ _ => h.block k hk⟩
theorem Fr.setCell {B : Nat} {rv : Value} {w w' : World} (h : Fr B rv w w') (o : Nat) (v : Value) : Fr B rv w (w'.setCell ⟨B, o, none⟩ v) :=
  ⟨h.os, h.tape, h.output, by simpa [World.setCell] using h.size, fun k hk hB hr => (Below.heap_setCell _ _ _ _ hB).trans (h.block k hk hB hr)⟩
theorem Fr.drew {B : Nat} {rv : Value} {w w' : World} (h : Fr B rv w w') : Fr B rv w w'.drew := ⟨h.os, h.tape, h.output, h.size, h.block⟩

/-- The deferred articles, read off a slice that may begin anywhere in its block. -/
def DRow (w : World) (B g off : Nat) (ds : List (ByteArray × Int)) : Prop :=
  B < g ∧ g < w.heap.size ∧ ∀ i d, ds[i]? = some d → w.cell? ⟨g, off + i * 4, none⟩ = some (.string d.1) ∧ w.cell? ⟨g, off + i * 4 + 1, none⟩ = some (.int .u64 (d.2 % 1000000000)) ∧
    w.cell? ⟨g, off + i * 4 + 2, none⟩ = some (.int .i64 (d.2 / 1000000000)) ∧ w.cell? ⟨g, off + i * 4 + 3, none⟩ = some (.pointer none)

theorem DRow.moved {w w' : World} {B g off : Nat} {rv : Value} {ds : List (ByteArray × Int)} (h : DRow w B g off ds) (hf : Fr B rv w w') (ha : rv.ownBlock ≠ some g) : DRow w' B g off ds := by
  obtain ⟨h1, h2, h3⟩ := h
  have hb := hf.block g h2 (by omega) ha
  refine ⟨h1, Nat.lt_of_lt_of_le h2 hf.size, fun i d hd => ?_⟩
  rw [World.cell?_of_block (w := w) (a := ⟨g, off + i * 4, none⟩) hb, World.cell?_of_block (w := w) (a := ⟨g, off + i * 4 + 1, none⟩) hb, World.cell?_of_block (w := w) (a := ⟨g, off + i * 4 + 2, none⟩) hb, World.cell?_of_block (w := w) (a := ⟨g, off + i * 4 + 3, none⟩) hb]
  exact h3 i d hd

structure PRel (W : World) (B : Nat) (rv dv bv : Value) (rs : List ByteArray) (ds : List (ByteArray × Int)) (t : Int) (j : Nat) (rv' : Value) (wr : World) : Prop where
  q : QB B wr 1 rv' dv bv
  own : wr.ownsRow (B + 1) 9 1 rv' (rs.length + j) (strs (rs ++ (ds.take j).map (·.1)))
  fr : Fr B rv W wr
  st : Stays W rv rv'
  due : ∀ d ∈ ds.take j, d.2 ≤ t

theorem PRel.below {W : World} {B : Nat} {rv dv bv : Value} {rs : List ByteArray} {ds : List (ByteArray × Int)} {t : Int} {j : Nat} {rv' : Value} {wr wf : World} (R : PRel W B rv dv bv rs ds t j rv' wr) (h : Below wr.heap.size wr wf) : PRel W B rv dv bv rs ds t j rv' wf :=
  ⟨qb_below R.q h, own_below R.own h, R.fr.trans (Fr.of_below h) R.st, R.st, R.due⟩

theorem take_next {α : Type} {ds : List α} {j : Nat} {d : α} (h : ds[j]? = some d) : ds.take (j + 1) = ds.take j ++ [d] := by
  rw [List.take_succ_eq_append_getElem (by exact (List.getElem?_eq_some_iff.1 h).1)]
  rw [(List.getElem?_eq_some_iff.1 h).2]

theorem PRel.step {W : World} {B : Nat} {rv dv bv : Value} {rs : List ByteArray} {ds : List (ByteArray × Int)} {t : Int} {j : Nat} {rv' v' : Value} {wf w2 : World} {x : ByteArray} {y : Int} {o : Obj} (R : PRel W B rv dv bv rs ds t j rv' wf) (hdj : ds[j]? = some (x, y)) (hy : y ≤ t)
    (hown : w2.ownsRow (B + 1) 9 1 v' (rs.length + j + 1) (strs (rs ++ (ds.take j).map (·.1)) ++ [.string x])) (hg : (wf.alloc o).grownBy w2 rv'.ownBlock) (hst : Stays (wf.alloc o) rv' v') :
    PRel W B rv dv bv rs ds t (j + 1) v' (w2.setCell ⟨B, 7, none⟩ v') := by
  refine ⟨(qb_grown R.q R.own hg).set7 _, ?_, ?_, ?_, ?_⟩
  · have := ownsRow_setCell_below hown (a := ⟨B, 7, none⟩) (by show B < B + 1; omega) v'
    rw [take_next hdj]
    simpa [strs, Nat.add_assoc] using this
  · refine R.fr.trans (rv' := rv') (Fr.setCell ?_ _ _) R.st
    exact ⟨hg.os, hg.tape, hg.output, Nat.le_trans (by simp) hg.size, fun k hk hB hr => (hg.block k (by simp; omega) (fun e => hr e.symm)).trans (heap_alloc_old wf o hk)⟩
  · intro k hk
    rcases hst k hk with h1 | h1
    · exact R.st k h1
    · have := R.fr.size
      simp at h1
      exact .inr (by omega)
  · intro d hd
    rw [take_next hdj] at hd
    rcases List.mem_append.1 hd with h1 | h1
    · exact R.due d h1
    · simp at h1; subst h1; exact hy

theorem grown_undrew {w w' : World} {r : Option Nat} (h : w.drew.grownBy w' r) : w.grownBy w' r := ⟨h.os, h.tape, h.output, h.size, h.block⟩
theorem Stays.drew {w : World} {v v' : Value} (h : Stays w.drew v v') : Stays w v v' := h

def due (t : Int) (ds : List (ByteArray × Int)) : List (ByteArray × Int) := ds.takeWhile fun d => decide (d.2 ≤ t)
def later (t : Int) (ds : List (ByteArray × Int)) : List (ByteArray × Int) := ds.dropWhile fun d => decide (d.2 ≤ t)
theorem due_split (t : Int) (ds : List (ByteArray × Int)) (j : Nat) (h : ∀ d ∈ ds.take j, d.2 ≤ t) (h' : ∀ d, ds[j]? = some d → t < d.2) : due t ds = ds.take j ∧ later t ds = ds.drop j := by
  induction ds generalizing j with
  | nil => simp [due, later]
  | cons d ds ih =>
    cases j with
    | zero =>
      have := h' d (by simp)
      have hf : decide (d.2 ≤ t) = false := by simp; omega
      simp [due, later, List.takeWhile_cons, List.dropWhile_cons, hf]
    | succ j =>
      have hd : decide (d.2 ≤ t) = true := by simpa using h d (by simp)
      have := ih j (fun e he => h e (by simp [he])) (fun e he => h' e (by simpa using he))
      simp only [due, later] at this ⊢
      simp only [List.takeWhile_cons, List.dropWhile_cons, hd, if_true, List.take_succ_cons, List.drop_succ_cons]
      exact ⟨by rw [this.1], this.2⟩

/-- The slice of the deferred articles, wherever it begins; its block is none of the ready row's. -/
def DV (w : World) (B : Nat) (rv dv : Value) (ds : List (ByteArray × Int)) : Prop :=
  ∃ ao cap, dv = .slice ao ds.length cap ∧ ds.length ≤ cap ∧ cap ≤ maxLen ∧ ((ao = none ∧ ds = [] ∧ cap = 0) ∨ ∃ g off, ao = some ⟨g, off, none⟩ ∧ DRow w B g off ds ∧ rv.ownBlock ≠ some g)

/-- The queue, its mutex's state word being m. -/
structure QI (m : Int) (B : Nat) (w : World) (rs : List ByteArray) (ds : List (ByteArray × Int)) (bs : List ByteArray) (rv dv bv : Value) : Prop where
  q : QB B w m rv dv bv
  r : w.ownsRow (B + 1) 9 1 rv rs.length (strs rs)
  d : DV w B rv dv ds
  b : w.ownsRow (B + 1) 9 1 bv bs.length (strs bs)
  apart : Apart rv bv

/-- What next and promote leave of the queue. -/
def After (m : Int) (B : Nat) (w : World) (rs : List ByteArray) (ds : List (ByteArray × Int)) (bs : List ByteArray) (rv dv bv : Value) (t : Int) (w' : World) : Prop :=
  ∃ rv' dv', QI m B w' (rs ++ (due t ds).map (·.1)) (later t ds) bs rv' dv' bv ∧ Fr B rv w w' ∧ Stays w rv rv' ∧ ∀ k, dv'.ownBlock = some k → dv.ownBlock = some k

theorem own_fr {w w' : World} {B e size n : Nat} {v rv : Value} {xs : List Value} (h : w.ownsRow (B + 1) e size v n xs) (hf : Fr B rv w w') (ha : Apart v rv) : w'.ownsRow (B + 1) e size v n xs := by
  refine ⟨h.1, ?_⟩
  rcases h.2 with h2 | ⟨g, cap, cur, hv, hg, hh, r⟩
  · exact .inl h2
  · exact .inr ⟨g, cap, cur, hv, hg, (hf.block g (Array.getElem?_eq_some_iff.1 hh).1 (by omega) (ha g (by rw [hv]; rfl))).trans hh, r⟩

/-- The end of the loop: the tail of the deferred articles is stored. -/
theorem PRel.done {W w : World} {B g off cap j : Nat} {rv bv rv' : Value} {rs bs : List ByteArray} {ds : List (ByteArray × Int)} {t : Int} {wf : World} {ao : Option Addr} (R : PRel W B rv (.slice (some ⟨g, off, none⟩) ds.length cap) bv rs ds t j rv' wf)
    (hw : Below w.heap.size w W) (hb : w.ownsRow (B + 1) 9 1 bv bs.length (strs bs)) (hap : Apart rv bv) (hrv : ∀ k, rv.ownBlock = some k → k < w.heap.size)
    (hd : DRow W B g off ds) (hg : g < w.heap.size) (ha : rv.ownBlock ≠ some g) (hn : ds.length ≤ cap) (hc : cap ≤ maxLen) (hj : j ≤ ds.length)
    (hao : (j < cap ∧ ao = some ⟨g, off + j * 4, none⟩) ∨ (j = ds.length ∧ ao = some ⟨g, off, none⟩)) (hx : ∀ d, ds[j]? = some d → t < d.2) :
    After 1 B w rs ds bs rv (.slice (some ⟨g, off, none⟩) ds.length cap) bv t (wf.setCell ⟨B, 8, none⟩ (.slice ao (ds.length - j) (cap - j))) := by
  obtain ⟨e1, e2⟩ := due_split t ds j R.due hx
  have hst : Stays w rv rv' := fun k hk => by
    rcases R.st k hk with h1 | h1
    · exact .inl h1
    · exact .inr (by have := hw.size; omega)
  have hne : rv'.ownBlock ≠ some g := fun e => by
    rcases hst g e with h1 | h1
    · exact ha h1
    · omega
  have fr : Fr B rv w (wf.setCell ⟨B, 8, none⟩ (.slice ao (ds.length - j) (cap - j))) := (((Fr.of_below hw).trans R.fr (fun k hk => .inl hk)).setCell _ _)
  have hdr : DRow (wf.setCell ⟨B, 8, none⟩ (.slice ao (ds.length - j) (cap - j))) B g off ds := hd.moved (R.fr.setCell _ _) ha
  refine ⟨rv', _, ⟨R.q.set8 _, ?_, ?_, own_fr hb fr hap.symm, ?_⟩, fr, hst, fun k hk => by rcases hao with ⟨_, rfl⟩ | ⟨_, rfl⟩ <;> (simpa [Value.ownBlock] using hk)⟩
  · have := ownsRow_setCell_below R.own (a := ⟨B, 8, none⟩) (by show B < B + 1; omega) (.slice ao (ds.length - j) (cap - j))
    rw [e1]
    simpa [Nat.min_eq_left hj] using this
  · rw [e2]
    refine ⟨ao, cap - j, by simp, by simp; omega, by omega, .inr ?_⟩
    obtain ⟨h1, h2, h3⟩ := hdr
    rcases hao with ⟨_, rfl⟩ | ⟨rfl, rfl⟩
    · refine ⟨g, _, rfl, ⟨h1, h2, fun i d hi => ?_⟩, hne⟩
      have := h3 (j + i) d (by simpa using hi)
      rw [show off + j * 4 + i * 4 = off + (j + i) * 4 from by omega]
      exact this
    · refine ⟨g, _, rfl, ⟨h1, h2, fun i d hi => ?_⟩, hne⟩
      simp at hi
  · intro k hk hbk
    rcases hst k hk with h1 | h1
    · exact hap k h1 hbk
    · have := (hb.lt k hbk).2
      omega

set_option maxRecDepth 100000 in
set_option maxHeartbeats 800000 in
theorem promote_some (B g off cap : Nat) (t : Int) (rs bs : List ByteArray) (ds : List (ByteArray × Int)) (rv bv : Value) (w : World) (hq : QB B w 1 rv (.slice (some ⟨g, off, none⟩) ds.length cap) bv)
    (hr : w.ownsRow (B + 1) 9 1 rv rs.length (strs rs)) (hd : DRow w B g off ds) (ha : rv.ownBlock ≠ some g)
    (hb : w.ownsRow (B + 1) 9 1 bv bs.length (strs bs)) (hap : Apart rv bv) (hn : ds.length ≤ cap) (hc : cap ≤ maxLen) (hl : rs.length + ds.length ≤ 1048576) :
    Calls Try.prog 28 #[.pointer (some ⟨B, 0, none⟩), .agg #[.int .u64 (t % 1000000000), .int .i64 (t / 1000000000), .pointer none]] w fun e w' => e = .returned (.tuple #[]) ∧ After 1 B w rs ds bs rv (.slice (some ⟨g, off, none⟩) ds.length cap) bv t w' := by
  obtain ⟨a, ha0⟩ : ∃ a, t % 1000000000 = a := ⟨_, rfl⟩
  obtain ⟨s, hs0⟩ : ∃ s, t / 1000000000 = s := ⟨_, rfl⟩
  obtain ⟨n, hn0⟩ : ∃ n, ds.length = n := ⟨_, rfl⟩
  have b0 : 0 ≤ a := by omega
  have b1 : a < 1000000000 := by omega
  rw [ha0, hs0]
  rw [hn0] at hq hn hl
  have HT : Hid (t % 1000000000 = a ∧ t / 1000000000 = s ∧ ds.length = n) := ⟨ha0, hs0, hn0⟩
  clear ha0 hs0 hn0
  have hB := hq.lt
  obtain ⟨W, hW⟩ : ∃ W, w.alloc (.cells #[.int .u64 a, .int .i64 s, .pointer none] 60) = W := ⟨_, rfl⟩
  have hWs : W.heap.size = w.heap.size + 1 := by rw [← hW]; simp
  have n0 : W.cell? ⟨w.heap.size, 0, none⟩ = some (.int .u64 a) := by rw [← hW]; simp
  have n1 : W.cell? ⟨w.heap.size, 1, none⟩ = some (.int .i64 s) := by rw [← hW]; simp
  have n2 : W.cell? ⟨w.heap.size, 2, none⟩ = some (.pointer none) := by rw [← hW]; simp
  have hWb : Below w.heap.size w W := by rw [← hW]; exact (Below.refl _ _).alloc (Nat.le_refl _) _
  have hrW := own_below hr hWb
  have hqW := qb_below hq hWb
  have hdW := hd.moved (Fr.of_below (rv := rv) hWb) ha
  go_enter Try.func28, Try.ntmps28
  go_wp2
  clear hW
  go_loopg [4] n (fun k i wr => ∃ j rv', j ≤ n ∧ n - j ≤ k ∧ i = .int .i64 (j : Nat) ∧ PRel W B rv (.slice (some ⟨g, off, none⟩) n cap) bv rs ds t j rv' wr)
  case atStart => exact ⟨0, rv, by omega, by omega, rfl, ⟨hqW, by simpa using hrW, Fr.refl _ _ _, fun k hk => .inl hk, fun d hd => by simp at hd⟩⟩
  case round =>
    obtain ⟨j, rv', hj, hjk, rfl, R⟩ := hrel
    by_cases hlt : j < n
    · obtain ⟨d, hdj⟩ : ∃ d, ds[j]? = some d := ⟨ds[j]'(by rw [HT.out.2.2]; exact hlt), by simp⟩
      obtain ⟨x, y⟩ := d
      have hdr := hdW.moved R.fr ha
      obtain ⟨_, hg1, hdc⟩ := hdr
      obtain ⟨k0, k1, k2, k3⟩ := hdc j _ hdj
      obtain ⟨p, hp⟩ : ∃ p, y % 1000000000 = p := ⟨_, rfl⟩
      obtain ⟨r, hr0⟩ : ∃ r, y / 1000000000 = r := ⟨_, rfl⟩
      simp only [hp, hr0] at k1 k2
      have HP : Hid (y % 1000000000 = p ∧ y / 1000000000 = r) := ⟨hp, hr0⟩
      have p0 : 0 ≤ p := by omega
      have p1 : p < 1000000000 := by omega
      clear hp hr0 hdc
      have hnb := R.fr.block w.heap.size (by omega) (by omega) (fun e => by have := (hrW.lt _ e).2; have := hr.lt _ e; omega)
      have m0 := (World.cell?_of_block (w := W) (a := ⟨w.heap.size, 0, none⟩) hnb).trans n0
      have m1 := (World.cell?_of_block (w := W) (a := ⟨w.heap.size, 1, none⟩) hnb).trans n1
      have m2 := (World.cell?_of_block (w := W) (a := ⟨w.heap.size, 2, none⟩) hnb).trans n2
      have m8 := R.q.cell8
      have zB := R.q.lt
      have zn : w.heap.size < wr.heap.size := by have := R.fr.size; omega
      obtain ⟨ι, hι, F, hF, hF'⟩ := fam wr.heap.size wr
      have g0 : ∀ x, (F x).cell? ⟨B, 8, none⟩ = _ := fun x => ((hF x).cell (p := ⟨B, 8, none⟩) zB).trans m8
      have g1 : ∀ x, (F x).cell? ⟨g, off + j * 4 + 1, none⟩ = _ := fun x => ((hF x).cell (p := ⟨g, off + j * 4 + 1, none⟩) hg1).trans k1
      have g2 : ∀ x, (F x).cell? ⟨g, off + j * 4 + 2, none⟩ = _ := fun x => ((hF x).cell (p := ⟨g, off + j * 4 + 2, none⟩) hg1).trans k2
      have g3 : ∀ x, (F x).cell? ⟨g, off + j * 4 + 3, none⟩ = _ := fun x => ((hF x).cell (p := ⟨g, off + j * 4 + 3, none⟩) hg1).trans k3
      have g4 : ∀ x, (F x).cell? ⟨w.heap.size, 0, none⟩ = _ := fun x => ((hF x).cell (p := ⟨w.heap.size, 0, none⟩) zn).trans m0
      have g5 : ∀ x, (F x).cell? ⟨w.heap.size, 1, none⟩ = _ := fun x => ((hF x).cell (p := ⟨w.heap.size, 1, none⟩) zn).trans m1
      have g6 : ∀ x, (F x).cell? ⟨w.heap.size, 2, none⟩ = _ := fun x => ((hF x).cell (p := ⟨w.heap.size, 2, none⟩) zn).trans m2
      clear m0 m1 m2 m8 k1 k2 k3 n0 n1 n2
      have hgd : decide ((j : Int) < (n : Int)) = true := by simpa using hlt
      go_wp2_with fail
      refine wp_region_family F (by kernel_rfl) (by kernel_rfl) (hF'.out _ (Below.refl _ _).drew) ?_
      repeat (go_big_quiet_step ((go_at_call 36; exact Calls.family hF hF' (Nat.le_refl _) (after_any p r a s _ p0 p1 b0 b1))))
      refine wpQuiet_nil ?_
      rintro _ ⟨z, rfl⟩
      have hz := hF z
      have R2 := R.below hz
      have R3 : PRel W B rv (.slice (some ⟨g, off, none⟩) ds.length cap) bv rs ds t j rv' (F z) := by rw [HT.out.2.2]; exact R2
      have k0' := ((hF z).cell (p := ⟨g, off + j * 4, none⟩) hg1).trans k0
      have g8 := g0 z
      clear g0 g1 g2 g3 g4 g5 g6 hF'
      generalize F z = wf at *
      clear hF F R hnb zn k0
      have c7 := R2.q.cell7
      have f7 := R2.q.frozen 7
      have f8 := R2.q.frozen 8
      have zB := R2.q.lt
      have zg : g < wf.heap.size := by have := hz.size; omega
      obtain ⟨i, hi, hz0, hz1, hz2⟩ := info_parts Try.info9
      have hcn : cap ≤ 9223372036854775807 := by unfold maxLen at hc; omega
      have hyt := afterB_eq y t
      rw [HP.out.1, HP.out.2, HT.out.1, HT.out.2.1] at hyt
      rw [hyt]
      clear hyt
      by_cases hy : y ≤ t
      rotate_left
      · rw [show (!decide (t < y)) = false from by simp; omega]
        have fin := R3.done hWb hb hap (fun k hk => (hr.lt k hk).2) hdW hd.2.1 ha (by rw [HT.out.2.2]; exact hn) hc (by rw [HT.out.2.2]; omega) (.inl ⟨by omega, rfl⟩) (fun d hd => by rw [hdj] at hd; simp at hd; subst hd; show t < y; omega)
        rw [HT.out.2.2] at fin
        clear R2
        go_wp2
        go_end0
        exact ⟨rfl, fin⟩
      · clear R3
        rw [show (!decide (t < y)) = true from by simp; omega]
        go_wp2
        go_region_law (first
          | (refine step_append_own2 _ rfl (.tmp 29) (.tmp 38) 22 rfl (B + 1) 9 i (.string ByteArray.empty) 1 16 Try.underlying22 hi hz0 hz1 hz2 rfl Nat.one_pos rv' (rs.length + j) _ rfl (R2.own.alloc _) ⟨wf.heap.size, 0, none⟩ 1 1 [.string x] rfl rfl ?_ ?_ ?_ ?_ ?_ ?_
             · exact cell_one_new _ _ _
             · intro u hu; simp at hu; subst hu; rfl
             · unfold maxLen; omega
             · omega
             · simp; omega
             intro v' w2 hown' hgrow hst
             have hgrow := grown_undrew hgrow
             have hst := Stays.drew hst
             have R3 := R2.step hdj hy hown' hgrow hst
             have hq2 := qb_grown R2.q R2.own hgrow
             have c7'' := hq2.cell7
             have f7'' := hq2.frozen 7
             obtain ⟨g', cap', hv⟩ := form hown'
             clear hown' hgrow hst hq2
             rw [hv] at R3 ⊢))
        all_goals go_wp2
        all_goals go_roundg (n - (j + 1))
        all_goals first | (case measure => omega) | skip
        all_goals first | (case rel => exact ⟨j + 1, _, by omega, by omega, by go_num, R3⟩) | skip
    · have hjn : j = n := by omega
      subst hjn
      have m8 := R.q.cell8
      have zB := R.q.lt
      obtain ⟨ι, hι, F, hF, hF'⟩ := fam wr.heap.size wr
      have g0 : ∀ x, (F x).cell? ⟨B, 8, none⟩ = _ := fun x => ((hF x).cell (p := ⟨B, 8, none⟩) zB).trans m8
      have hgd : decide ((j : Int) < (j : Int)) = false := by simp
      clear m8 n0 n1 n2
      go_wp2_with fail
      refine wp_region_family F (by kernel_rfl) (by kernel_rfl) (hF'.out _ (Below.refl _ _).drew) ?_
      repeat (go_big_quiet_step (fail))
      refine wpQuiet_nil ?_
      rintro _ ⟨z, rfl⟩
      have hz := hF z
      have R2 := R.below hz
      have g8 := g0 z
      clear g0 hF'
      generalize F z = wf at *
      clear hF F R
      have f8 := R2.q.frozen 8
      have hcn : cap ≤ 9223372036854775807 := by unfold maxLen at hc; omega
      have R3 : PRel W B rv (.slice (some ⟨g, off, none⟩) ds.length cap) bv rs ds t j rv' wf := by rw [HT.out.2.2]; exact R2
      have hno : ∀ d, ds[j]? = some d → t < d.2 := fun d hd => by rw [List.getElem?_eq_none (by rw [HT.out.2.2]; exact Nat.le_refl _)] at hd; cases hd
      have e0 : ds.length - j = 0 := by rw [HT.out.2.2]; omega
      by_cases hcap : cap = j
      · have fin := R3.done hWb hb hap (fun k hk => (hr.lt k hk).2) hdW hd.2.1 ha (by rw [HT.out.2.2]; exact hn) hc (by rw [HT.out.2.2]; omega) (.inr ⟨HT.out.2.2.symm, rfl⟩) hno
        rw [e0, show cap - j = 0 from by omega] at fin
        clear R2 R3 e0 hno
        go_wp2
        go_end0
        exact ⟨rfl, fin⟩
      · have fin := R3.done hWb hb hap (fun k hk => (hr.lt k hk).2) hdW hd.2.1 ha (by rw [HT.out.2.2]; exact hn) hc (by rw [HT.out.2.2]; omega) (.inl ⟨by omega, rfl⟩) hno
        rw [e0] at fin
        clear R2 R3 e0 hno
        go_wp2
        go_end0
        exact ⟨rfl, fin⟩

end Go.Proofs.Qxb6605917a
