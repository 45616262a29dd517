import Derived.Test.Qxb6605917aNext2
namespace Go.Proofs.Qxb6605917a
open Go.RowKit Go.MuLone
set_option linter.unusedVariables false
set_option linter.unusedSimpArgs false

theorem QI.below {m : Int} {B : Nat} {w w1 : World} {rs bs : List ByteArray} {ds : List (ByteArray × Int)} {rv dv bv : Value} (h : QI m B w rs ds bs rv dv bv) (hb : Below w.heap.size w w1) : QI m B w1 rs ds bs rv dv bv :=
  h.moved (qb_below h.q hb) hb.size (fun k hk _ _ => hb.block k hk)

theorem After.wrap {m : Int} {B : Nat} {w w1 w2 w3 : World} {rs bs : List ByteArray} {ds : List (ByteArray × Int)} {rv dv bv : Value} {t : Int} (hb : Below w.heap.size w w1) (A : After m B w1 rs ds bs rv dv bv t w2) (hb2 : Below w2.heap.size w2 w3) : After m B w rs ds bs rv dv bv t w3 := by
  obtain ⟨rv', dv', Q, fr, st, hd⟩ := A
  have st' : Stays w rv rv' := fun k hk => by
    rcases st k hk with h1 | h1
    · exact .inl h1
    · exact .inr (Nat.le_trans hb.size h1)
  exact ⟨rv', dv', Q.below hb2, ((Fr.of_below hb).trans fr (fun k hk => .inl hk)).trans (Fr.of_below (rv := rv') hb2) st', st', hd⟩

def Inr (n : Int) : Prop := -9223372036854775808 ≤ n ∧ n ≤ 9223372036854775807

theorem later_sub (t : Int) (ds : List (ByteArray × Int)) : ∀ d ∈ later t ds, d ∈ ds := fun d hd => by
  have := due_later t ds
  rw [← this]
  exact List.mem_append.2 (.inr hd)

theorem nextT_in (t : Int) (rs : List ByteArray) (ds : List (ByteArray × Int)) (ht : Inr t) (hd : ∀ d ∈ ds, Inr d.2) : Inr (nextT t rs ds) := by
  unfold nextT
  split
  · have hs := later_sub t ds
    split
    · exact ⟨by omega, by omega⟩
    · rename_i d _ h
      exact hd d (hs d (by rw [h]; simp))
  · exact ht

set_option maxRecDepth 100000 in
set_option maxHeartbeats 800000 in
theorem zznext_any (B : Nat) (t : Int) (rs bs : List ByteArray) (ds : List (ByteArray × Int)) (rv dv bv : Value) (w : World) (hI : QI 0 B w rs ds bs rv dv bv) (hl : rs.length + ds.length ≤ 1048576) (ht : Inr t) (hd : ∀ d ∈ ds, Inr d.2) :
    Calls Try.prog 14 #[.pointer (some ⟨B, 0, none⟩), .int .i64 t] w fun e w' => e = .returned (.tuple #[.int .i64 (nextT t rs ds), .bool (nextOk rs ds)]) ∧ After 0 B w rs ds bs rv dv bv t w' := by
  obtain ⟨T, hT⟩ : ∃ T, nextT t rs ds = T := ⟨_, rfl⟩
  obtain ⟨ok, hok⟩ : ∃ ok, nextOk rs ds = ok := ⟨_, rfl⟩
  have hin := nextT_in t rs ds ht hd
  have hN := fun w hI => next_any B t rs bs ds rv dv bv w hI hl
  rw [hT] at hin
  simp only [hT, hok] at hN ⊢
  have HN := (show Hid _ from hN)
  obtain ⟨d0, d1⟩ := hin
  clear hN hT hok hd
  go_enter Try.func14, Try.ntmps14
  go_wp2_with fail
  refine (at_any t _ ht.1 ht.2).mono ?_
  rintro e w1 ⟨rfl, hb⟩
  have hI1 := hI.below hb
  go_wp2_with fail
  refine (HN.out _ hI1).mono ?_
  rintro e w2 ⟨rfl, A⟩
  have hs := since_any T (w2.alloc (.cells #[.int .u64 (T % 1000000000), .int .i64 (T / 1000000000), .pointer none] 60)) d0 d1
  obtain ⟨x, hx⟩ : ∃ x, T % 1000000000 = x := ⟨_, rfl⟩
  obtain ⟨y, hy⟩ : ∃ y, T / 1000000000 = y := ⟨_, rfl⟩
  simp only [hx, hy] at hs ⊢
  have HS := (show Hid _ from hs)
  clear hx hy hs HN hI hI1
  go_wp2_with fail
  refine Calls.mono HS.out ?_
  rintro e w3 ⟨rfl, hb3⟩
  go_wp2
  go_ret2
  exact ⟨rfl, A.wrap hb (((Below.refl _ _).alloc (Nat.le_refl _) _).trans (hb3.mono (by simp)))⟩

set_option maxHeartbeats 400000 in
theorem ready_any {m : Int} (B : Nat) (rv dv bv : Value) (w : World) (h : QB B w m rv dv bv) :
    Calls Try.prog 15 #[.pointer (some ⟨B, 0, none⟩)] w fun e w' => e = .returned rv ∧ w' = w := by
  have c := h.cell7
  go_enter Try.func15, Try.ntmps15
  go_wp2
  go_ret
  exact ⟨rfl, rfl⟩

set_option maxHeartbeats 400000 in
theorem busy_any {m : Int} (B : Nat) (rv dv bv : Value) (w : World) (h : QB B w m rv dv bv) :
    Calls Try.prog 20 #[.pointer (some ⟨B, 0, none⟩)] w fun e w' => e = .returned bv ∧ w' = w := by
  have c := h.cell9
  go_enter Try.func20, Try.ntmps20
  go_wp2
  go_ret
  exact ⟨rfl, rfl⟩

set_option maxHeartbeats 400000 in
theorem dlen_any {m : Int} (B : Nat) (rs bs : List ByteArray) (ds : List (ByteArray × Int)) (rv dv bv : Value) (w : World) (h : QI m B w rs ds bs rv dv bv) :
    Calls Try.prog 16 #[.pointer (some ⟨B, 0, none⟩)] w fun e w' => e = .returned (.int .i64 ds.length) ∧ w' = w := by
  have c := h.q.cell8
  obtain ⟨ao, cap, hv, _⟩ := h.d
  rw [hv] at c
  clear h hv
  go_enter Try.func16, Try.ntmps16
  go_wp2
  go_ret
  exact ⟨rfl, rfl⟩

set_option maxHeartbeats 400000 in
theorem did_any {m : Int} (B : Nat) (rs bs : List ByteArray) (ds : List (ByteArray × Int)) (rv dv bv : Value) (w : World) (h : QI m B w rs ds bs rv dv bv) (i : Nat) (d : ByteArray × Int) (hi : ds[i]? = some d) :
    Calls Try.prog 17 #[.pointer (some ⟨B, 0, none⟩), .int .i64 i] w fun e w' => e = .returned (.string d.1) ∧ w' = w := by
  have c := h.q.cell8
  obtain ⟨ao, cap, hv, h1, h2, h3⟩ := h.d
  rw [hv] at c
  have hlt := (List.getElem?_eq_some_iff.1 hi).1
  rcases h3 with ⟨_, h0, _⟩ | ⟨g, off, rfl, hdr, _⟩
  · rw [h0] at hlt; simp at hlt
  have k := (hdr.2.2 i d hi).1
  obtain ⟨x, hx⟩ : ∃ x, d.1 = x := ⟨_, rfl⟩
  rw [hx] at k ⊢
  obtain ⟨n, hn⟩ : ∃ n, ds.length = n := ⟨_, rfl⟩
  rw [hn] at hlt h1 c
  unfold maxLen at h2
  clear h hv hdr hi hx hn
  go_enter Try.func17, Try.ntmps17
  go_wp2
  go_ret
  exact ⟨rfl, rfl⟩

set_option maxHeartbeats 400000 in
theorem ddue_any {m : Int} (B : Nat) (rs bs : List ByteArray) (ds : List (ByteArray × Int)) (rv dv bv : Value) (w : World) (h : QI m B w rs ds bs rv dv bv) (i : Nat) (d : ByteArray × Int) (hi : ds[i]? = some d) (hin : Inr d.2) :
    Calls Try.prog 18 #[.pointer (some ⟨B, 0, none⟩), .int .i64 i] w fun e w' => e = .returned (.int .i64 d.2) ∧ Below w.heap.size w w' := by
  have c := h.q.cell8
  obtain ⟨ao, cap, hv, h1, h2, h3⟩ := h.d
  rw [hv] at c
  have hlt := (List.getElem?_eq_some_iff.1 hi).1
  rcases h3 with ⟨_, h0, _⟩ | ⟨g, off, rfl, hdr, _⟩
  · rw [h0] at hlt; simp at hlt
  obtain ⟨_, k1, k2, k3⟩ := hdr.2.2 i d hi
  obtain ⟨y, hy⟩ : ∃ y, d.2 = y := ⟨_, rfl⟩
  rw [hy] at k1 k2 hin ⊢
  have hs := since_any y w hin.1 hin.2
  obtain ⟨p, hp⟩ : ∃ p, y % 1000000000 = p := ⟨_, rfl⟩
  obtain ⟨r, hr0⟩ : ∃ r, y / 1000000000 = r := ⟨_, rfl⟩
  simp only [hp, hr0] at hs k1 k2
  have HS := (show Hid _ from hs)
  obtain ⟨n, hn⟩ : ∃ n, ds.length = n := ⟨_, rfl⟩
  rw [hn] at hlt h1 c
  unfold maxLen at h2
  clear h hv hdr hi hy hn hp hr0 hs
  go_enter Try.func18, Try.ntmps18
  go_wp2_with fail
  refine Calls.mono HS.out ?_
  rintro e w3 ⟨rfl, hb3⟩
  go_wp2
  go_ret
  exact ⟨rfl, hb3⟩
end Go.Proofs.Qxb6605917a
