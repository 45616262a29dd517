import Derived.Test.Qxb6605917aNext
namespace Go.Proofs.Qxb6605917a
open Go.RowKit Go.MuLone
set_option linter.unusedVariables false
set_option linter.unusedSimpArgs false

theorem form0 {w : World} {B e size n : Nat} {v : Value} {xs : List Value} (h : w.ownsRow B e size v n xs) : ∃ ao cap, v = .slice ao n cap := by
  rcases h.2 with ⟨hv, h0⟩ | ⟨g, cap, cur, hv, _⟩
  · exact ⟨none, 0, by rw [hv, h0]⟩
  · exact ⟨_, cap, hv⟩

/-- What the text behind promote reads: the boxes of next's parameter and result. -/
theorem boxes {w w2 : World} {B : Nat} {rv : Value} {a s : Int} (hf : Fr B rv (((w.setCell ⟨B, 1, none⟩ (.int .i32 1)).alloc (.cells #[.int .u64 a, .int .i64 s, .pointer none] 60)).alloc (.cells #[.int .u64 0, .int .i64 0, .pointer none] 60)) w2) (hB : B < w.heap.size) (hr : ∀ k, rv.ownBlock = some k → k < w.heap.size) :
    w2.heap[w.heap.size]? = some (.cells #[.int .u64 a, .int .i64 s, .pointer none] 60) ∧ w2.heap[w.heap.size + 1]? = some (.cells #[.int .u64 0, .int .i64 0, .pointer none] 60) := by
  have hs : (w.setCell ⟨B, 1, none⟩ (.int .i32 1)).heap.size = w.heap.size := by simp [World.setCell]
  have e1 := hf.block w.heap.size (by simp [World.setCell]; omega) (by omega) (fun e => by have := hr _ e; omega)
  have e2 := hf.block (w.heap.size + 1) (by simp [World.setCell]) (by omega) (fun e => by have := hr _ e; omega)
  rw [e1, e2]
  constructor
  · rw [heap_alloc_old _ _ (by simp [World.setCell])]
    have := heap_alloc_new (w.setCell ⟨B, 1, none⟩ (.int .i32 1)) (.cells #[.int .u64 a, .int .i64 s, .pointer none] 60)
    rwa [hs] at this
  · have := heap_alloc_new ((w.setCell ⟨B, 1, none⟩ (.int .i32 1)).alloc (.cells #[.int .u64 a, .int .i64 s, .pointer none] 60)) (.cells #[.int .u64 0, .int .i64 0, .pointer none] 60)
    have hs2 : ((w.setCell ⟨B, 1, none⟩ (.int .i32 1)).alloc (.cells #[.int .u64 a, .int .i64 s, .pointer none] 60)).heap.size = w.heap.size + 1 := by simp [World.setCell]
    rwa [hs2] at this

theorem due_later (t : Int) (ds : List (ByteArray × Int)) : due t ds ++ later t ds = ds := List.takeWhile_append_dropWhile
theorem next_some {t : Int} {rs : List ByteArray} {ds : List (ByteArray × Int)} {r0 : ByteArray} {rs' : List ByteArray} (h : rs ++ (due t ds).map (·.1) = r0 :: rs') : nextT t rs ds = t ∧ nextOk rs ds = true := by
  have hne : ¬ (rs = [] ∧ due t ds = []) := fun ⟨h1, h2⟩ => by simp [h1, h2] at h
  refine ⟨if_neg hne, ?_⟩
  simp only [nextOk, Bool.not_eq_true', Bool.and_eq_false_iff, List.isEmpty_eq_false_iff]
  by_cases h1 : rs = []
  · refine .inr (fun h2 => hne ⟨h1, ?_⟩)
    subst h2; rfl
  · exact .inl h1
theorem next_later {t : Int} {rs : List ByteArray} {ds : List (ByteArray × Int)} {d0 : ByteArray × Int} {ds' : List (ByteArray × Int)} (h : rs ++ (due t ds).map (·.1) = []) (h' : later t ds = d0 :: ds') : nextT t rs ds = d0.2 ∧ nextOk rs ds = true := by
  have h1 : rs = [] ∧ due t ds = [] := by simpa using h
  have h2 := due_later t ds
  refine ⟨by rw [nextT, if_pos h1, h'], ?_⟩
  rw [h1.2, h'] at h2
  rw [← h2]
  simp [nextOk]
theorem next_none {t : Int} {rs : List ByteArray} {ds : List (ByteArray × Int)} (h : rs ++ (due t ds).map (·.1) = []) (h' : later t ds = []) : nextT t rs ds = 0 ∧ nextOk rs ds = false := by
  have h1 : rs = [] ∧ due t ds = [] := by simpa using h
  have h2 := due_later t ds
  refine ⟨by rw [nextT, if_pos h1, h'], ?_⟩
  rw [h1.2, h'] at h2
  rw [← h2, h1.1]
  simp [nextOk]

theorem ret_next {a s T : Int} {b ok : Bool} (ha : T % 1000000000 = a) (hs : T / 1000000000 = s) (hb : ok = b) :
    Ending.returned (.tuple #[.agg #[.int .u64 a, .int .i64 s, .pointer none], .bool b]) = .returned (.tuple #[.agg #[.int .u64 (T % 1000000000), .int .i64 (T / 1000000000), .pointer none], .bool ok]) := by rw [ha, hs, hb]

theorem fin_unlock {B : Nat} {w w2 : World} {rs bs : List ByteArray} {ds : List (ByteArray × Int)} {rv dv bv : Value} {t : Int} {o1 o2 : Obj} (hI : QI 0 B w rs ds bs rv dv bv) (A : After 1 B (((w.setCell ⟨B, 1, none⟩ (.int .i32 1)).alloc o1).alloc o2) rs ds bs rv dv bv t w2) (u v n : Value) :
    After 0 B w rs ds bs rv dv bv t ((((w2.setCell ⟨w.heap.size + 1, 0, none⟩ u).setCell ⟨w.heap.size + 1, 1, none⟩ v).setCell ⟨w.heap.size + 1, 2, none⟩ n).setCell ⟨B, 1, none⟩ (.int .i32 0)) := by
  have hB := hI.q.lt
  refine After.unlock (fun k hk => (hI.r.lt k hk).2) (fun k hk => (hI.d.lt k hk).2) (fun k hk => (hI.b.lt k hk).2) A hB rfl rfl rfl (by simp [World.setCell]) (fun k h1 h2 => ?_) (fun rv' dv' h => ?_)
  · rw [Below.heap_setCell _ _ _ _ (by exact h1), Below.heap_setCell _ _ _ _ (by exact h2), Below.heap_setCell _ _ _ _ (by exact h2), Below.heap_setCell _ _ _ _ (by exact h2)]
  · refine QB.set1 (m := 1) (h.of_block ?_) 0
    rw [Below.heap_setCell _ _ _ _ (by show B ≠ w.heap.size + 1; omega), Below.heap_setCell _ _ _ _ (by show B ≠ w.heap.size + 1; omega), Below.heap_setCell _ _ _ _ (by show B ≠ w.heap.size + 1; omega)]

set_option maxRecDepth 100000 in
set_option maxHeartbeats 800000 in
theorem next_any (B : Nat) (t : Int) (rs bs : List ByteArray) (ds : List (ByteArray × Int)) (rv dv bv : Value) (w : World) (hI : QI 0 B w rs ds bs rv dv bv) (hl : rs.length + ds.length ≤ 1048576) :
    Calls Try.prog 23 #[.pointer (some ⟨B, 0, none⟩), .agg #[.int .u64 (t % 1000000000), .int .i64 (t / 1000000000), .pointer none]] w fun e w' =>
      e = .returned (.tuple #[.agg #[.int .u64 (nextT t rs ds % 1000000000), .int .i64 (nextT t rs ds / 1000000000), .pointer none], .bool (nextOk rs ds)]) ∧ After 0 B w rs ds bs rv dv bv t w' := by
  obtain ⟨a, ha0⟩ : ∃ a, t % 1000000000 = a := ⟨_, rfl⟩
  obtain ⟨s, hs0⟩ : ∃ s, t / 1000000000 = s := ⟨_, rfl⟩
  have hP := fun w hI => promote_any B t rs bs ds rv dv bv w hI hl
  have HT : Hid (t % 1000000000 = a ∧ t / 1000000000 = s) := ⟨ha0, hs0⟩
  simp only [ha0, hs0] at hP ⊢
  clear ha0 hs0
  have HP := (show Hid _ from hP)
  clear hP
  have hB := hI.q.lt
  have hL := hI.lock (.cells #[.int .u64 a, .int .i64 s, .pointer none] 60) (.cells #[.int .u64 0, .int .i64 0, .pointer none] 60)
  have c1 : ((w.alloc (.cells #[.int .u64 a, .int .i64 s, .pointer none] 60)).alloc (.cells #[.int .u64 0, .int .i64 0, .pointer none] 60)).cell? ⟨B, 1, none⟩ = some (.int .i32 0) := (World.cell?_alloc_past _ _ _ (by simp; omega)).trans ((World.cell?_alloc_past _ _ _ hB).trans hI.q.cell1)
  have f1 : ((w.alloc (.cells #[.int .u64 a, .int .i64 s, .pointer none] 60)).alloc (.cells #[.int .u64 0, .int .i64 0, .pointer none] 60)).frozen? ⟨B, 1, none⟩ = false := (World.frozen?_alloc_past _ _ _ (by simp; omega)).trans ((World.frozen?_alloc_past _ _ _ hB).trans (hI.q.frozen 1))
  go_enter_defers Try.func23, Try.ntmps23
  go_wp2_with (go_at_call 26; refine (lock_free Try.muLib ⟨B, 1, none⟩ _ c1 f1).mono ?_; rintro e w' ⟨rfl, rfl⟩)
  refine (HP.out _ hL).mono ?_
  rintro e w2 ⟨rfl, A⟩
  have A0 := A
  obtain ⟨rv', dv', Q, fr, st, hdd⟩ := A
  obtain ⟨bx1, bx2⟩ := boxes fr hB (fun k hk => (hI.r.lt k hk).2)
  have x0 : w2.cell? ⟨w.heap.size, 0, none⟩ = some (.int .u64 a) := by rw [cell_of_row w2 _ 0 _ 60 (0, 0) bx1]; rfl
  have x1 : w2.cell? ⟨w.heap.size, 1, none⟩ = some (.int .i64 s) := by rw [cell_of_row w2 _ 1 _ 60 (0, 0) bx1]; rfl
  have x2 : w2.cell? ⟨w.heap.size, 2, none⟩ = some (.pointer none) := by rw [cell_of_row w2 _ 2 _ 60 (0, 0) bx1]; rfl
  have y0 : w2.cell? ⟨w.heap.size + 1, 0, none⟩ = some (.int .u64 0) := by rw [cell_of_row w2 _ 0 _ 60 (0, 0) bx2]; rfl
  have y1 : w2.cell? ⟨w.heap.size + 1, 1, none⟩ = some (.int .i64 0) := by rw [cell_of_row w2 _ 1 _ 60 (0, 0) bx2]; rfl
  have y2 : w2.cell? ⟨w.heap.size + 1, 2, none⟩ = some (.pointer none) := by rw [cell_of_row w2 _ 2 _ 60 (0, 0) bx2]; rfl
  have yf : ∀ o, w2.frozen? ⟨w.heap.size + 1, o, none⟩ = false := fun o => by simp [World.frozen?, bx2]
  have c7 := Q.q.cell7
  have c8 := Q.q.cell8
  have z1 := Q.q.cell1
  have g1 := Q.q.frozen 1
  obtain ⟨ao, cap, hv7⟩ := form0 Q.r
  obtain ⟨bo, cap8, hv8, _, _, hdv⟩ := Q.d
  rw [hv7] at c7
  rw [hv8] at c8
  clear hL c1 f1
  generalize hrs : rs ++ (due t ds).map (·.1) = rs' at *
  generalize hds : later t ds = ds' at *
  have HR : Hid (rs ++ (due t ds).map (·.1) = rs' ∧ later t ds = ds') := ⟨hrs, hds⟩
  have hne : B ≠ w.heap.size + 1 := by omega
  clear hrs hds fr st hdd bx1 bx2
  rcases rs' with _ | ⟨r0, rs'⟩
  · rcases ds' with _ | ⟨d0, ds'⟩
    · have fin := fin_unlock hI A0 (.int .u64 0) (.int .i64 0) (.pointer none)
      clear hI A0 Q hdv
      go_wp2
      refine leaves_cons (f := 27) (args := #[.pointer (some ⟨B, 1, none⟩)]) (by simp) (by simp [go_sem]) ?_
      refine (unlock_deferred Try.muLib ⟨B, 1, none⟩ .returning _ ?_ ?_).mono ?_
      · simp [World.cell?_setCell_other, hne.symm, z1]
      · simp [g1]
      rintro e u' w'' ⟨rfl, rfl, rfl⟩
      refine ⟨.tuple #[.agg #[.int .u64 0, .int .i64 0, .pointer none], .bool false], ?_, ?_, fin⟩
      · simp [results, Try.results23, go_sem, y0, y1, y2, hne, hne.symm]
      · exact ret_next (by rw [(next_none HR.out.1 HR.out.2).1]; rfl) (by rw [(next_none HR.out.1 HR.out.2).1]; rfl) (next_none HR.out.1 HR.out.2).2
    · rcases hdv with ⟨_, h0, _⟩ | ⟨g, off, rfl, hdr, _⟩
      · cases h0
      obtain ⟨x, y⟩ := d0
      obtain ⟨_, k1, k2, k3⟩ := hdr.2.2 0 (x, y) rfl
      simp only [Nat.zero_mul, Nat.add_zero] at k1 k2 k3
      obtain ⟨p, hp⟩ : ∃ p, y % 1000000000 = p := ⟨_, rfl⟩
      obtain ⟨r, hr0⟩ : ∃ r, y / 1000000000 = r := ⟨_, rfl⟩
      rw [hp] at k1
      rw [hr0] at k2
      have HP2 : Hid (y % 1000000000 = p ∧ y / 1000000000 = r) := ⟨hp, hr0⟩
      have fin := fin_unlock hI A0 (.int .u64 p) (.int .i64 r) (.pointer none)
      clear hI A0 Q hp hr0 hdr
      go_wp2
      refine leaves_cons (f := 27) (args := #[.pointer (some ⟨B, 1, none⟩)]) (by simp) (by simp [go_sem]) ?_
      refine (unlock_deferred Try.muLib ⟨B, 1, none⟩ .returning _ ?_ ?_).mono ?_
      · simp [World.cell?_setCell_other, hne.symm, z1]
      · simp [g1]
      rintro e u' w'' ⟨rfl, rfl, rfl⟩
      refine ⟨.tuple #[.agg #[.int .u64 p, .int .i64 r, .pointer none], .bool true], ?_, ?_, fin⟩
      · simp [results, Try.results23, go_sem, y0, y1, y2, hne, hne.symm]
      · exact ret_next (by rw [(next_later HR.out.1 HR.out.2).1]; exact HP2.out.1) (by rw [(next_later HR.out.1 HR.out.2).1]; exact HP2.out.2) (next_later HR.out.1 HR.out.2).2
  · have fin := fin_unlock hI A0 (.int .u64 a) (.int .i64 s) (.pointer none)
    clear hI A0 Q
    go_wp2
    refine leaves_cons (f := 27) (args := #[.pointer (some ⟨B, 1, none⟩)]) (by simp) (by simp [go_sem]) ?_
    refine (unlock_deferred Try.muLib ⟨B, 1, none⟩ .returning _ ?_ ?_).mono ?_
    · simp [World.cell?_setCell_other, hne.symm, z1]
    · simp [g1]
    rintro e u' w'' ⟨rfl, rfl, rfl⟩
    refine ⟨.tuple #[.agg #[.int .u64 a, .int .i64 s, .pointer none], .bool true], ?_, ?_, fin⟩
    · simp [results, Try.results23, go_sem, y0, y1, y2, hne, hne.symm]
    · exact ret_next (by rw [(next_some HR.out.1).1]; exact HT.out.1) (by rw [(next_some HR.out.1).1]; exact HT.out.2) (next_some HR.out.1).2

end Go.Proofs.Qxb6605917a
