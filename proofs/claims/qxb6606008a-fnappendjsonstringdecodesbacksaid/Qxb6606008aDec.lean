import Derived.Test.Qxb6606008aHelp
import Derived.Lib.JoinLaws
namespace Go.Proofs.Qxb6606008a
open Go.RowKit
set_option linter.unusedVariables false
set_option linter.unusedSimpArgs false

theorem ret_pair {a b : Int} {c : Bool} (h : a = b) : Ending.returned (.tuple #[.int .i64 a, .bool c]) = .returned (.tuple #[.int .i64 b, .bool c]) := by rw [h]
set_option maxHeartbeats 400000 in
theorem lowerHex_any (d : Int) (h0 : 0 ≤ d) (h1 : d < 16) (w : World) :
    Calls Try.prog 15 #[.int .u8 (hexd d)] w fun e w' => e = .returned (.tuple #[.int .i64 d, .bool true]) ∧ w' = w := by
  by_cases hd : d < 10
  · have hh : hexd d = 48 + d := by unfold hexd; rw [if_pos hd]
    rw [hh]
    clear hh
    go_enter Try.func15, Try.ntmps15
    go_wp2
    go_ret2
    exact ⟨ret_pair (by omega), rfl⟩
  · have hh : hexd d = 87 + d := by unfold hexd; rw [if_neg hd]
    rw [hh]
    clear hh
    go_enter Try.func15, Try.ntmps15
    go_wp2
    go_ret2
    exact ⟨ret_pair (by omega), rfl⟩

/-- The literal, and where each byte's writing stands in it. -/
def lit (l : List Int) : List Int := 34 :: encs l ++ [34]
def spot (l : List Int) (k : Nat) : Nat := 1 + (encs (l.take k)).length
theorem spot_succ (l : List Int) (k : Nat) (h : k < l.length) : spot l (k + 1) = spot l k + (enc (l.getD k 0)).length := by
  unfold spot; rw [take_succ' l k h, encs_append, encs_one, List.length_append]; omega
theorem lit_len (l : List Int) : (lit l).length = spot l l.length + 1 := by
  simp [lit, spot]; omega
theorem spot_le (l : List Int) (k : Nat) (h : k ≤ l.length) : spot l k ≤ spot l l.length := by
  have e : encs l = encs (l.take k) ++ encs (l.drop k) := by rw [← encs_append, List.take_append_drop]
  unfold spot
  rw [List.take_length, e, List.length_append]
  omega
theorem lit_split (l : List Int) (k : Nat) (h : k < l.length) : lit l = (34 :: encs (l.take k)) ++ (enc (l.getD k 0) ++ (encs (l.drop (k + 1)) ++ [34])) := by
  have e : l = l.take k ++ (l.getD k 0 :: l.drop (k + 1)) := by
    rw [List.getD_eq_getElem?_getD, List.getElem?_eq_getElem h, Option.getD_some, ← List.drop_eq_getElem_cons h, List.take_append_drop]
  have e2 : encs l = encs (l.take k) ++ (enc (l.getD k 0) ++ encs (l.drop (k + 1))) := by
    rw [← encs_one, ← encs_append, ← encs_append]
    exact congrArg encs e
  rw [lit, e2]
  simp
theorem lit_at (l : List Int) (k : Nat) (h : k < l.length) (t : Nat) (ht : t < (enc (l.getD k 0)).length) : (lit l).getD (spot l k + t) 0 = (enc (l.getD k 0)).getD t 0 := by
  have e : spot l k + t - (34 :: encs (l.take k)).length = t := by simp only [spot, List.length_cons]; omega
  rw [lit_split l k h, List.getD_eq_getElem?_getD, List.getElem?_append_right (by simp only [spot, List.length_cons]; omega), e, List.getElem?_append_left ht]
  simp only [List.getD_eq_getElem?_getD]
theorem lit_end (l : List Int) : (lit l).getD (spot l l.length) 0 = 34 := by
  rw [lit, List.getD_eq_getElem?_getD, List.getElem?_append_right (by simp [spot]; omega)]
  simp [spot]
  have : 1 + (encs l).length - ((encs l).length + 1) = 0 := by omega
  rw [this]
  rfl
theorem own_take {w : World} {B : Nat} {v : Value} {l : List Int} {k n : Nat} (hk : k < l.length) {x : Int} (hx : l.getD k 0 = x) (hn : n = (l.take k).length) (h : w.ownsRow B 5 1 v (n + 1) (cells (l.take k) ++ [.int .u8 x])) : w.ownsRow B 5 1 v (l.take (k + 1)).length (cells (l.take (k + 1))) := by
  rw [take_succ' l k hk, hx, cells_append, List.length_append, ← hn]
  exact h

set_option maxRecDepth 100000 in
set_option maxHeartbeats 2000000 in
theorem dec_any (b off cap : Nat) (l : List Int) (hl : ∀ x ∈ l, 0 ≤ x ∧ x ≤ 255) (hll : l.length ≤ 1048576) (w : World) (hb : b < w.heap.size) (hcap : (lit l).length ≤ cap) (hcm : cap ≤ maxLen)
    (hc : ∀ i, i < (lit l).length → w.cell? ⟨b, off + i, none⟩ = some (.int .u8 ((lit l).getD i 0))) :
    Calls Try.prog 10 #[.slice (some ⟨b, off, none⟩) (lit l).length cap] w fun e w' => ∃ v', e = .returned (.tuple #[v', .bool true]) ∧ w'.ownsRow w.heap.size 5 1 v' l.length (cells l) ∧ Below w.heap.size w w' := by
  obtain ⟨i0, hi, hz0, hz1, hz2⟩ := info_parts info5
  unfold maxLen at hcm
  have hN := lit_len l
  have hsp0 : spot l 0 = 1 := by simp [spot, encs]
  have hsle : spot l 0 ≤ spot l l.length := spot_le l 0 (by omega)
  have hNm : (lit l).length ≤ 8388608 := by
    have := (encs_len l).2
    simp only [lit, List.length_append, List.length_cons, List.length_nil]
    omega
  obtain ⟨N, hNN⟩ : ∃ N, (lit l).length = N := ⟨_, rfl⟩
  rw [hNN] at hc hcap hN hNm ⊢
  have k0 : w.cell? ⟨b, off, none⟩ = some (.int .u8 34) := hc 0 (by omega)
  have hmk : ∀ w, (Instr.makeSlice 24 (.int .i64 0) (.int .i64 (N : Int))).run Try.prog w = .ok (.slice (some ⟨w.heap.size, 0, none⟩) 0 N) (w.alloc (.cells (madeCells #[.int .u8 0] N) 5)) := fun w =>
    run_make_room (P := Try.prog) 24 5 (.int .u8 0) 1 Try.underlying24 info5 rfl .i64 .i64 N (by omega) (by omega) w
  have OW : (w.alloc (.cells (madeCells #[.int .u8 0] N) 5)).ownsRow w.heap.size 5 1 (.slice (some ⟨w.heap.size, 0, none⟩) 0 N) (l.take 0).length (cells (l.take 0)) := World.ownsRow_made w _ _ (Nat.le_refl _) (by unfold maxLen; omega) (by rw [size_madeCells, Nat.mul_one])
  have bA := (Below.refl w.heap.size w).alloc (Nat.le_refl _) (.cells (madeCells #[.int .u8 0] N) 5)
  have HC : Hid (∀ i, i < N → w.cell? ⟨b, off + i, none⟩ = some (.int .u8 ((lit l).getD i 0))) := hc
  have HN : Hid (N = spot l l.length + 1) := hN
  have HS0 : Hid (spot l 0 = 1) := hsp0
  have hN2 : 2 ≤ N := by omega
  clear hc hNN hN hsle hsp0
  go_enter Try.func10, Try.ntmps10
  go_wp2
  go_loopg [4, 5] l.length (fun q o i wx => ∃ k p : Nat, k ≤ l.length ∧ l.length - k ≤ q ∧ Hid (spot l k = p) ∧ i = .int .i64 p ∧ wx.ownsRow w.heap.size 5 1 o (l.take k).length (cells (l.take k)) ∧ Below w.heap.size w wx)
  case atStart => exact ⟨0, 1, by omega, by omega, HS0, by go_num, OW, bA⟩
  case round =>
    obtain ⟨k, p, hk, hkq, HP, rfl, own, bx⟩ := hrel
    clear k0 hmk OW bA
    have cc : ∀ i, i < N → wr.cell? ⟨b, off + i, none⟩ = some (.int .u8 ((lit l).getD i 0)) := fun i hi => (bx.cell (p := ⟨b, off + i, none⟩) hb).trans (HC.out i hi)
    by_cases hlt : k < l.length
    · obtain ⟨x, hx⟩ : ∃ x, l.getD k 0 = x := ⟨_, rfl⟩
      have HXJ : Hid (l.getD k 0 = x) := hx
      have hxb : 0 ≤ x ∧ x ≤ 255 := hl x (by rw [← hx, List.getD_eq_getElem?_getD, List.getElem?_eq_getElem hlt]; exact List.getElem_mem _)
      have hN := HN.out
      have hs1 := spot_succ l k hlt
      have hs2 := spot_le l (k + 1) (by omega)
      have hat := lit_at l k hlt
      rw [hx] at hs1 hat
      rw [HP.out] at hs1 hat
      have catx : ∀ t, t < (enc x).length → wr.cell? ⟨b, off + (p + t), none⟩ = some (.int .u8 ((enc x).getD t 0)) := fun t ht => by rw [cc (p + t) (by omega), hat t ht]
      have hkl : (l.take k).length ≤ 1048576 := by rw [List.length_take]; omega
      clear cc hat hx
      rcases (by omega : (32 ≤ x ∧ x ≠ 34 ∧ x ≠ 92) ∨ x = 34 ∨ x = 92 ∨ x = 10 ∨ x = 13 ∨ x = 9 ∨ (x < 32 ∧ x ≠ 10 ∧ x ≠ 13 ∧ x ≠ 9)) with hpl | rfl | rfl | rfl | rfl | rfl | hsm
      · have HE : enc x = [x] := by unfold enc; rw [if_pos hpl]
        rw [HE] at hs1 catx
        have HP1 : Hid (spot l (k + 1) = p + 1) := hs1
        have c0 : wr.cell? ⟨b, off + p, none⟩ = some (.int .u8 x) := catx 0 (by simp)
        have hpN : p + 1 < N := by simp at hs1; omega
        have d1 : (x == 34) = false := by simp; omega
        have d2 : decide (x < 32) = false := by simp; omega
        have d3 : (x != 92) = true := by simp; omega
        clear catx hs1 HE hs2 hpl hN
        go_wp2_with (at_builtin; refine wpList_append_own _ rfl _ _ 24 rfl w.heap.size 5 i0 (.int .u8 0) 1 1 Try.underlying24 hi hz0 hz1 hz2 rfl (by decide) _ _ _ rfl (own.alloc _) ⟨wr.heap.size, 0, none⟩ 1 1 [.int .u8 x] rfl rfl (cell_one_new _ _ _) (ints_oneCell .u8 [x]) (by unfold maxLen; omega) (by omega) (by have := bx.size; simp; omega) ?_)
        intro v2 w2 own2 g2 _
        have own3 := own_take (n := k) hlt HXJ.out (by rw [List.length_take]; omega) own2
        have b2 : Below w.heap.size w w2 := (bx.alloc bx.size _).grown g2 (by have := bx.size; simp; omega) (fun k hk => (own.lt k hk).1)
        clear own own2 g2 bx
        go_wp2
        go_roundg (l.length - (k + 1))
        case measure => omega
        case rel => exact ⟨k + 1, spot l (k + 1), by omega, by omega, rfl, by rw [HP1.out]; go_num, own3, b2⟩
      · have HE : enc 34 = [92, 34] := by decide
        rw [HE] at hs1 catx
        have HP1 : Hid (spot l (k + 1) = p + 2) := hs1
        have c0 : wr.cell? ⟨b, off + p, none⟩ = some (.int .u8 92) := catx 0 (by simp)
        have c1 : wr.cell? ⟨b, off + (p + 1), none⟩ = some (.int .u8 34) := catx 1 (by simp)
        have hpN : p + 2 < N := by simp at hs1; omega
        clear catx hs1 HE hs2 hN
        go_wp2_with (at_builtin; refine wpList_append_own _ rfl _ _ 24 rfl w.heap.size 5 i0 (.int .u8 0) 1 1 Try.underlying24 hi hz0 hz1 hz2 rfl (by decide) _ _ _ rfl (own.alloc _) ⟨wr.heap.size, 0, none⟩ 1 1 [.int .u8 34] rfl rfl (cell_one_new _ _ _) (ints_oneCell .u8 [34]) (by unfold maxLen; omega) (by omega) (by have := bx.size; simp; omega) ?_)
        intro v2 w2 own2 g2 _
        have own3 := own_take (n := k) hlt HXJ.out (by rw [List.length_take]; omega) own2
        have b2 : Below w.heap.size w w2 := (bx.alloc bx.size _).grown g2 (by have := bx.size; simp; omega) (fun k hk => (own.lt k hk).1)
        clear own own2 g2 bx
        go_wp2
        go_roundg (l.length - (k + 1))
        case measure => omega
        case rel => exact ⟨k + 1, spot l (k + 1), by omega, by omega, rfl, by rw [HP1.out]; go_num, own3, b2⟩
      · have HE : enc 92 = [92, 92] := by decide
        rw [HE] at hs1 catx
        have HP1 : Hid (spot l (k + 1) = p + 2) := hs1
        have c0 : wr.cell? ⟨b, off + p, none⟩ = some (.int .u8 92) := catx 0 (by simp)
        have c1 : wr.cell? ⟨b, off + (p + 1), none⟩ = some (.int .u8 92) := catx 1 (by simp)
        have hpN : p + 2 < N := by simp at hs1; omega
        clear catx hs1 HE hs2 hN
        go_wp2_with (at_builtin; refine wpList_append_own _ rfl _ _ 24 rfl w.heap.size 5 i0 (.int .u8 0) 1 1 Try.underlying24 hi hz0 hz1 hz2 rfl (by decide) _ _ _ rfl (own.alloc _) ⟨wr.heap.size, 0, none⟩ 1 1 [.int .u8 92] rfl rfl (cell_one_new _ _ _) (ints_oneCell .u8 [92]) (by unfold maxLen; omega) (by omega) (by have := bx.size; simp; omega) ?_)
        intro v2 w2 own2 g2 _
        have own3 := own_take (n := k) hlt HXJ.out (by rw [List.length_take]; omega) own2
        have b2 : Below w.heap.size w w2 := (bx.alloc bx.size _).grown g2 (by have := bx.size; simp; omega) (fun k hk => (own.lt k hk).1)
        clear own own2 g2 bx
        go_wp2
        go_roundg (l.length - (k + 1))
        case measure => omega
        case rel => exact ⟨k + 1, spot l (k + 1), by omega, by omega, rfl, by rw [HP1.out]; go_num, own3, b2⟩
      · have HE : enc 10 = [92, 110] := by decide
        rw [HE] at hs1 catx
        have HP1 : Hid (spot l (k + 1) = p + 2) := hs1
        have c0 : wr.cell? ⟨b, off + p, none⟩ = some (.int .u8 92) := catx 0 (by simp)
        have c1 : wr.cell? ⟨b, off + (p + 1), none⟩ = some (.int .u8 110) := catx 1 (by simp)
        have hpN : p + 2 < N := by simp at hs1; omega
        clear catx hs1 HE hs2 hN
        go_wp2_with (at_builtin; refine wpList_append_own _ rfl _ _ 24 rfl w.heap.size 5 i0 (.int .u8 0) 1 1 Try.underlying24 hi hz0 hz1 hz2 rfl (by decide) _ _ _ rfl (own.alloc _) ⟨wr.heap.size, 0, none⟩ 1 1 [.int .u8 10] rfl rfl (cell_one_new _ _ _) (ints_oneCell .u8 [10]) (by unfold maxLen; omega) (by omega) (by have := bx.size; simp; omega) ?_)
        intro v2 w2 own2 g2 _
        have own3 := own_take (n := k) hlt HXJ.out (by rw [List.length_take]; omega) own2
        have b2 : Below w.heap.size w w2 := (bx.alloc bx.size _).grown g2 (by have := bx.size; simp; omega) (fun k hk => (own.lt k hk).1)
        clear own own2 g2 bx
        go_wp2
        go_roundg (l.length - (k + 1))
        case measure => omega
        case rel => exact ⟨k + 1, spot l (k + 1), by omega, by omega, rfl, by rw [HP1.out]; go_num, own3, b2⟩
      · have HE : enc 13 = [92, 114] := by decide
        rw [HE] at hs1 catx
        have HP1 : Hid (spot l (k + 1) = p + 2) := hs1
        have c0 : wr.cell? ⟨b, off + p, none⟩ = some (.int .u8 92) := catx 0 (by simp)
        have c1 : wr.cell? ⟨b, off + (p + 1), none⟩ = some (.int .u8 114) := catx 1 (by simp)
        have hpN : p + 2 < N := by simp at hs1; omega
        clear catx hs1 HE hs2 hN
        go_wp2_with (at_builtin; refine wpList_append_own _ rfl _ _ 24 rfl w.heap.size 5 i0 (.int .u8 0) 1 1 Try.underlying24 hi hz0 hz1 hz2 rfl (by decide) _ _ _ rfl (own.alloc _) ⟨wr.heap.size, 0, none⟩ 1 1 [.int .u8 13] rfl rfl (cell_one_new _ _ _) (ints_oneCell .u8 [13]) (by unfold maxLen; omega) (by omega) (by have := bx.size; simp; omega) ?_)
        intro v2 w2 own2 g2 _
        have own3 := own_take (n := k) hlt HXJ.out (by rw [List.length_take]; omega) own2
        have b2 : Below w.heap.size w w2 := (bx.alloc bx.size _).grown g2 (by have := bx.size; simp; omega) (fun k hk => (own.lt k hk).1)
        clear own own2 g2 bx
        go_wp2
        go_roundg (l.length - (k + 1))
        case measure => omega
        case rel => exact ⟨k + 1, spot l (k + 1), by omega, by omega, rfl, by rw [HP1.out]; go_num, own3, b2⟩
      · have HE : enc 9 = [92, 116] := by decide
        rw [HE] at hs1 catx
        have HP1 : Hid (spot l (k + 1) = p + 2) := hs1
        have c0 : wr.cell? ⟨b, off + p, none⟩ = some (.int .u8 92) := catx 0 (by simp)
        have c1 : wr.cell? ⟨b, off + (p + 1), none⟩ = some (.int .u8 116) := catx 1 (by simp)
        have hpN : p + 2 < N := by simp at hs1; omega
        clear catx hs1 HE hs2 hN
        go_wp2_with (at_builtin; refine wpList_append_own _ rfl _ _ 24 rfl w.heap.size 5 i0 (.int .u8 0) 1 1 Try.underlying24 hi hz0 hz1 hz2 rfl (by decide) _ _ _ rfl (own.alloc _) ⟨wr.heap.size, 0, none⟩ 1 1 [.int .u8 9] rfl rfl (cell_one_new _ _ _) (ints_oneCell .u8 [9]) (by unfold maxLen; omega) (by omega) (by have := bx.size; simp; omega) ?_)
        intro v2 w2 own2 g2 _
        have own3 := own_take (n := k) hlt HXJ.out (by rw [List.length_take]; omega) own2
        have b2 : Below w.heap.size w w2 := (bx.alloc bx.size _).grown g2 (by have := bx.size; simp; omega) (fun k hk => (own.lt k hk).1)
        clear own own2 g2 bx
        go_wp2
        go_roundg (l.length - (k + 1))
        case measure => omega
        case rel => exact ⟨k + 1, spot l (k + 1), by omega, by omega, rfl, by rw [HP1.out]; go_num, own3, b2⟩
      · obtain ⟨h1, h2, h3, h4⟩ := hsm
        have HE : enc x = [92, 117, 48, 48, hexd (x / 16), hexd (x % 16)] := by unfold enc; rw [if_neg (by omega), if_neg (by omega), if_neg (by omega), if_neg (by omega), if_neg (by omega)]
        rw [HE] at hs1 catx
        have HP1 : Hid (spot l (k + 1) = p + 6) := hs1
        have c0 : wr.cell? ⟨b, off + p, none⟩ = some (.int .u8 92) := catx 0 (by simp)
        have c1 : wr.cell? ⟨b, off + (p + 1), none⟩ = some (.int .u8 117) := catx 1 (by simp)
        have c2 : wr.cell? ⟨b, off + (p + 2), none⟩ = some (.int .u8 48) := catx 2 (by simp)
        have c3 : wr.cell? ⟨b, off + (p + 3), none⟩ = some (.int .u8 48) := catx 3 (by simp)
        have c4 : wr.cell? ⟨b, off + (p + 4), none⟩ = some (.int .u8 (hexd (x / 16))) := catx 4 (by simp)
        have c5 : wr.cell? ⟨b, off + (p + 5), none⟩ = some (.int .u8 (hexd (x % 16))) := catx 5 (by simp)
        have hpN : p + 6 < N := by simp at hs1; omega
        have L1 := lowerHex_any (x / 16) (by omega) (by omega) wr
        have L2 := lowerHex_any (x % 16) (by omega) (by omega) wr
        obtain ⟨y, hy⟩ : ∃ y, hexd (x / 16) = y := ⟨_, rfl⟩
        obtain ⟨z, hz⟩ : ∃ z, hexd (x % 16) = z := ⟨_, rfl⟩
        obtain ⟨q, hq⟩ : ∃ q, x / 16 = q := ⟨_, rfl⟩
        obtain ⟨r, hr⟩ : ∃ r, x % 16 = r := ⟨_, rfl⟩
        rw [hy] at c4 L1
        rw [hz] at c5 L2
        rw [hq] at L1
        rw [hr] at L2
        have HL1 : Hid _ := L1
        have HL2 : Hid _ := L2
        have hxq : q * 16 + r = x := by omega
        have d0 : decide (32 ≤ x) = false := by simp; omega
        have d1 : (x == 10) = false := by simp; omega
        have d2 : (x == 13) = false := by simp; omega
        have d3 : (x == 9) = false := by simp; omega
        have hq01 : 0 ≤ q ∧ q ≤ 1 := by omega
        have hr01 : 0 ≤ r ∧ r ≤ 15 := by omega
        clear catx hs1 HE hs2 hN L1 L2 hy hz hq hr
        go_wp2_with fail
        refine Calls.mono HL1.out ?_
        rintro e w3 ⟨rfl, hw3⟩; obtain rfl := hw3.symm
        go_wp2_with fail
        refine Calls.mono HL2.out ?_
        rintro e w3 ⟨rfl, hw3⟩; obtain rfl := hw3.symm
        clear HL1 HL2
        go_wp2_with (at_builtin; refine wpList_append_own _ rfl _ _ 24 rfl w.heap.size 5 i0 (.int .u8 0) 1 1 Try.underlying24 hi hz0 hz1 hz2 rfl (by decide) _ _ _ rfl (own.alloc _) ⟨wr.heap.size, 0, none⟩ 1 1 [.int .u8 x] rfl rfl (cell_one_new _ _ _) (ints_oneCell .u8 [x]) (by unfold maxLen; omega) (by omega) (by have := bx.size; simp; omega) ?_)
        intro v2 w2 own2 g2 _
        have own3 := own_take (n := k) hlt HXJ.out (by rw [List.length_take]; omega) own2
        have b2 : Below w.heap.size w w2 := (bx.alloc bx.size _).grown g2 (by have := bx.size; simp; omega) (fun k hk => (own.lt k hk).1)
        clear own own2 g2 bx
        go_wp2
        go_roundg (l.length - (k + 1))
        case measure => omega
        case rel => exact ⟨k + 1, spot l (k + 1), by omega, by omega, rfl, by rw [HP1.out]; go_num, own3, b2⟩
    · have hkl : k = l.length := by omega
      subst hkl
      have hN := HN.out
      have c0 : wr.cell? ⟨b, off + p, none⟩ = some (.int .u8 34) := by
        rw [cc p (by have := HP.out; omega), ← HP.out, lit_end]
      have hpN : p + 1 = N := by have := HP.out; omega
      have d0 : ((p : Int) == (N : Int) - 1) = true := by simp; omega
      rw [List.take_length] at own
      clear hN cc
      go_wp2
      go_ret2
      exact ⟨_, rfl, own, bx⟩
end Go.Proofs.Qxb6606008a
