import Derived.Test.Qxb6606008aProg
import Derived.WalkKit
import Derived.Lib.AppendStr
import Derived.Deep.Onto
namespace Go.Proofs.Qxb6606008a
open Go.RowKit
set_option linter.unusedVariables false
set_option linter.unusedSimpArgs false

def hexd (q : Int) : Int := if q < 10 then 48 + q else 87 + q
/-- What one byte is written as. -/
def enc (x : Int) : List Int :=
  if 32 ≤ x ∧ x ≠ 34 ∧ x ≠ 92 then [x] else if x = 34 ∨ x = 92 then [92, x] else if x = 10 then [92, 110] else if x = 13 then [92, 114] else if x = 9 then [92, 116] else [92, 117, 48, 48, hexd (x / 16), hexd (x % 16)]
def encs (l : List Int) : List Int := l.flatMap enc
theorem encs_append (a b : List Int) : encs (a ++ b) = encs a ++ encs b := by simp [encs]
theorem encs_one (x : Int) : encs [x] = enc x := by simp [encs]
theorem enc_len (x : Int) : 1 ≤ (enc x).length ∧ (enc x).length ≤ 6 := by
  unfold enc
  split
  · simp
  split
  · simp
  split
  · simp
  split
  · simp
  split
  · simp
  · simp
theorem encs_len (l : List Int) : l.length ≤ (encs l).length ∧ (encs l).length ≤ 6 * l.length := by
  induction l with
  | nil => simp [encs]
  | cons x l ih =>
    have h : encs (x :: l) = enc x ++ encs l := by simp [encs]
    have := enc_len x
    rw [h, List.length_append, List.length_cons]
    omega

def nums (s : ByteArray) : List Int := s.data.toList.map fun b => (b.toNat : Int)
def cells (l : List Int) : List Value := l.map (Value.int .u8)
theorem cells_append (a b : List Int) : cells (a ++ b) = cells a ++ cells b := by simp [cells]
theorem cells_len (a : List Int) : (cells a).length = a.length := by simp [cells]
theorem cells_one (a : List Int) : ∀ u ∈ cells a, u.oneCell' = true := ints_oneCell .u8 a
theorem strCells_eq (s : ByteArray) : Lib.strCells s = cells (nums s) := by simp [Lib.strCells, cells, nums]
theorem nums_len (s : ByteArray) : (nums s).length = s.size := by rw [nums, List.length_map, Array.length_toList]; rfl
theorem nums_extract (s : ByteArray) (a b : Nat) : nums (s.extract a b) = ((nums s).take b).drop a := by
  unfold nums
  rw [ByteArray.data_extract, Array.toList_extract, List.extract_eq_take_drop, List.drop_take, List.map_take, List.map_drop]
theorem nums_byte (s : ByteArray) : ∀ x ∈ nums s, 0 ≤ x ∧ x ≤ 255 := by
  intro x hx
  simp only [nums, List.mem_map] at hx
  obtain ⟨b, _, rfl⟩ := hx
  have := b.toNat_lt
  omega
theorem take_succ' (l : List Int) (j : Nat) (h : j < l.length) : l.take (j + 1) = l.take j ++ [l.getD j 0] := by
  rw [List.take_add_one, List.getD_eq_getElem?_getD, List.getElem?_eq_getElem h]; rfl
theorem seg_succ (l : List Int) (a j : Nat) (ha : a ≤ j) (h : j < l.length) : (l.take (j + 1)).drop a = (l.take j).drop a ++ [l.getD j 0] := by
  rw [take_succ' l j h, List.drop_append_of_le_length (by simp; omega)]
theorem seg_self (l : List Int) (j : Nat) : (l.take j).drop j = [] := by simp
/-- The text up to byte j of the source: what stands written and what waits. -/
def upto (bs l : List Int) (j : Nat) : List Int := bs ++ 34 :: encs (l.take j)
theorem upto_succ (bs l : List Int) (j : Nat) (h : j < l.length) : upto bs l (j + 1) = upto bs l j ++ enc (l.getD j 0) := by
  unfold upto; rw [take_succ' l j h, encs_append, encs_one]; simp
theorem upto_zero (bs l : List Int) : upto bs l 0 = bs ++ [34] := by simp [upto, encs]
theorem upto_all (bs l : List Int) : upto bs l l.length = bs ++ 34 :: encs l := by simp [upto]
theorem upto_len (bs l : List Int) (j : Nat) : (upto bs l j).length ≤ bs.length + 1 + 6 * l.length := by
  have h := (encs_len (l.take j)).2
  have h2 : (l.take j).length ≤ l.length := by simp; omega
  simp only [upto, List.length_append, List.length_cons]
  omega

/-- A slice of bytes that is read. -/
def Rd (w : World) (v : Value) (bs : List Int) : Prop :=
  ∃ ao cap, v = .slice ao bs.length cap ∧ bs.length ≤ cap ∧ cap ≤ maxLen ∧ ((ao = none ∧ bs.length = 0 ∧ cap = 0) ∨ ∃ b off, ao = some ⟨b, off, none⟩ ∧ b < w.heap.size ∧ ∀ i, i < bs.length → w.cell? ⟨b, off + i, none⟩ = some (.int .u8 (bs.getD i 0)))
/-- One that came in. -/
def RIn (w : World) (v : Value) (bs : List Int) : Prop :=
  ∃ ao cap, v = .slice ao bs.length cap ∧ bs.length ≤ cap ∧ cap ≤ maxLen ∧ (ao = none → bs.length = 0 ∧ cap = 0) ∧ (bs.length = 0 ∨ ∃ b off, ao = some ⟨b, off, none⟩ ∧ b < w.heap.size ∧ ∀ i, i < bs.length → w.cell? ⟨b, off + i, none⟩ = some (.int .u8 (bs.getD i 0)))
/-- One without spare room. -/
def Full (w : World) (v : Value) (bs : List Int) : Prop :=
  bs.length ≤ maxLen ∧ ((v = .slice none 0 0 ∧ bs.length = 0) ∨ ∃ b, v = .slice (some ⟨b, 0, none⟩) bs.length bs.length ∧ b < w.heap.size ∧ ∀ i, i < bs.length → w.cell? ⟨b, i, none⟩ = some (.int .u8 (bs.getD i 0)))
theorem Full.rd {w : World} {v : Value} {bs : List Int} (h : Full w v bs) : Rd w v bs := by
  rcases h with ⟨hm, ⟨rfl, h0⟩ | ⟨b, rfl, hb, hc⟩⟩
  · exact ⟨none, 0, by rw [h0], by omega, by unfold maxLen; omega, .inl ⟨rfl, h0, rfl⟩⟩
  · exact ⟨_, _, rfl, Nat.le_refl _, hm, .inr ⟨b, 0, rfl, hb, fun i hi => by rw [Nat.zero_add]; exact hc i hi⟩⟩
theorem Rd.below {w w' : World} {B : Nat} {v : Value} {bs : List Int} (h : Rd w v bs) (hb : Below B w w') (hB : ∀ k, v.ownBlock = some k → k < B) : Rd w' v bs := by
  obtain ⟨ao, cap, rfl, h1, h2, h3⟩ := h
  refine ⟨ao, cap, rfl, h1, h2, ?_⟩
  rcases h3 with h3 | ⟨b, off, rfl, hlt, hc⟩
  · exact .inl h3
  · exact .inr ⟨b, off, rfl, Nat.lt_of_lt_of_le hlt hb.size, fun i hi => (hb.cell (p := ⟨b, off + i, none⟩) (hB b rfl)).trans (hc i hi)⟩
theorem Rd.lt {w : World} {v : Value} {bs : List Int} (h : Rd w v bs) : ∀ k, v.ownBlock = some k → k < w.heap.size := by
  obtain ⟨ao, cap, rfl, h1, h2, h3⟩ := h
  intro k hk
  rcases h3 with ⟨rfl, _⟩ | ⟨b, off, rfl, hlt, hc⟩
  · cases hk
  · simp [Value.ownBlock] at hk; omega
theorem own_rd {w : World} {B : Nat} {v : Value} {bs : List Int} (h : w.ownsRow B 5 1 v bs.length (cells bs)) : Rd w v bs := by
  rcases h.2 with ⟨rfl, h0⟩ | ⟨g, cap, cur, rfl, hg, hh, hn, hc, hs, htake⟩
  · exact ⟨none, 0, by rw [h0], by omega, by unfold maxLen; omega, .inl ⟨rfl, h0, rfl⟩⟩
  · refine ⟨_, cap, rfl, hn, hc, .inr ⟨g, 0, rfl, (Array.getElem?_eq_some_iff.1 hh).1, fun i hi => ?_⟩⟩
    rw [cell_of_row w g _ cur 5 (0, 0) hh, Nat.zero_add]
    have e1 : cur[i]? = (cur.toList.take (bs.length * 1))[i]? := by
      rw [List.getElem?_take_of_lt (by omega)]; simp
    rw [e1, htake]
    simp [cells, hi]
theorem own_below {w w1 : World} {B e size n : Nat} {v : Value} {xs : List Value} (h : w.ownsRow B e size v n xs) (hb : Below w.heap.size w w1) : w1.ownsRow B e size v n xs := by
  refine ⟨h.1, ?_⟩
  rcases h.2 with h0 | ⟨g, cap, cur, rfl, hg, hh, hn, hc, hs, htake⟩
  · exact .inl h0
  · exact .inr ⟨g, cap, cur, rfl, hg, (hb.block g (Array.getElem?_eq_some_iff.1 hh).1).trans hh, hn, hc, hs, htake⟩
theorem own_form {w : World} {B e size n : Nat} {v : Value} {xs : List Value} (h : w.ownsRow B e size v n xs) : ∃ ao cap, v = .slice ao n cap := by
  rcases h.2 with ⟨rfl, h0⟩ | ⟨g, cap, cur, rfl, _⟩
  · exact ⟨none, 0, by rw [h0]⟩
  · exact ⟨_, cap, rfl⟩
end Go.Proofs.Qxb6606008a
