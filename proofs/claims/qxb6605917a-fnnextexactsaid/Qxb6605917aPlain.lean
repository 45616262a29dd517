import Derived.Test.Qxb6605917aZZ
import Derived.Test.Qxb6605917aBytes
namespace Go.Proofs.Qxb6605917a
open Go.RowKit
set_option linter.unusedVariables false
set_option linter.unusedSimpArgs false

def lst (n : Nat) (S : Nat → ByteArray) : List ByteArray := (List.range n).map S
def lst2 (n : Nat) (S : Nat → ByteArray) (D : Nat → Int) : List (ByteArray × Int) := (List.range n).map fun i => (S i, D i)
theorem lst_succ (n : Nat) (S : Nat → ByteArray) : lst (n + 1) S = lst n S ++ [S n] := by simp [lst, List.range_succ]
theorem lst2_succ (n : Nat) (S : Nat → ByteArray) (D : Nat → Int) : lst2 (n + 1) S D = lst2 n S D ++ [(S n, D n)] := by simp [lst2, List.range_succ]
theorem lst_len (n : Nat) (S : Nat → ByteArray) : (lst n S).length = n := by simp [lst]
theorem lst2_len (n : Nat) (S : Nat → ByteArray) (D : Nat → Int) : (lst2 n S D).length = n := by simp [lst2]
theorem lst2_in {n : Nat} {S : Nat → ByteArray} {D : Nat → Int} (h : ∀ i, i < n → Inr (D i)) : ∀ d ∈ lst2 n S D, Inr d.2 := by
  intro d hd
  simp only [lst2, List.mem_map, List.mem_range] at hd
  obtain ⟨i, hi, rfl⟩ := hd
  exact h i hi

theorem later_first {t : Int} {ds : List (ByteArray × Int)} {d : ByteArray × Int} {r : List (ByteArray × Int)} (h : later t ds = d :: r) : t < d.2 := by
  induction ds with
  | nil => simp [later] at h
  | cons x xs ih =>
    unfold later at h ih
    rw [List.dropWhile_cons] at h
    split at h
    · exact ih h
    · rename_i hx
      simp only [List.cons.injEq] at h
      rw [← h.1]
      simpa using hx

theorem due_of_later (t : Int) (ds : List (ByteArray × Int)) : due t (later t ds) = [] ∧ later t (later t ds) = later t ds := by
  cases h : later t ds with
  | nil => exact ⟨rfl, rfl⟩
  | cons d r =>
    have := later_first h
    have hf : decide (d.2 ≤ t) = false := by simp; omega
    simp [due, later, List.takeWhile_cons, List.dropWhile_cons, hf]

theorem next_again (t : Int) (rs : List ByteArray) (ds : List (ByteArray × Int)) :
    nextT t (rs ++ (due t ds).map (·.1)) (later t ds) = nextT t rs ds ∧ nextOk (rs ++ (due t ds).map (·.1)) (later t ds) = nextOk rs ds := by
  obtain ⟨h1, h2⟩ := due_of_later t ds
  constructor
  · unfold nextT
    rw [h1, h2]
    simp
  · have := due_later t ds
    unfold nextOk
    cases rs with
    | cons r rs => simp
    | nil =>
      cases hd : due t ds with
      | nil => rw [hd] at this; simp at this; rw [this]; simp
      | cons d r => rw [hd] at this; rw [← this]; simp

theorem nextOk_len (rs : List ByteArray) (ds : List (ByteArray × Int)) : nextOk rs ds = decide (0 < rs.length + ds.length) := by
  cases rs <;> cases ds <;> simp [nextOk] <;> omega

/-- The first deferred article: is it due? -/
theorem next_early (t : Int) (rs : List ByteArray) (ds : List (ByteArray × Int)) (h : nextOk rs ds = true) :
    (nextT t rs ds = t ∧ (rs ≠ [] ∨ ∃ d r, ds = d :: r ∧ d.2 ≤ t) ∧ rs ++ (due t ds).map (·.1) ≠ []) ∨
    (∃ d r, rs = [] ∧ ds = d :: r ∧ t < d.2 ∧ nextT t rs ds = d.2 ∧ due t ds = [] ∧ later t ds = ds) := by
  by_cases h1 : rs = [] ∧ due t ds = []
  · right
    obtain ⟨rfl, h2⟩ := h1
    have h3 := due_later t ds
    rw [h2, List.nil_append] at h3
    cases ds with
    | nil => simp [nextOk] at h
    | cons d r =>
      have := later_first h3
      exact ⟨d, r, rfl, rfl, this, by rw [nextT, if_pos ⟨rfl, h2⟩, h3], h2, h3⟩
  · left
    refine ⟨by rw [nextT, if_neg h1], ?_, fun h2 => h1 (by simpa using h2)⟩
    by_cases hr : rs = []
    · right
      cases ds with
      | nil => exact absurd ⟨hr, rfl⟩ h1
      | cons d r =>
        refine ⟨d, r, rfl, ?_⟩
        by_cases hd : d.2 ≤ t
        · exact hd
        · have hf : decide (d.2 ≤ t) = false := by simp; omega
          exact absurd ⟨hr, by simp [due, List.takeWhile_cons, hf]⟩ h1
    · exact .inl hr

/-- The third call, at the time that the first one named. -/
theorem next_third (t : Int) (rs : List ByteArray) (ds : List (ByteArray × Int)) (h : nextOk rs ds = true) :
    nextT (nextT t rs ds) (rs ++ (due t ds).map (·.1)) (later t ds) = nextT t rs ds ∧ nextOk (rs ++ (due t ds).map (·.1)) (later t ds) = true ∧
    0 < (rs ++ (due t ds).map (·.1) ++ (due (nextT t rs ds) (later t ds)).map (·.1)).length := by
  refine ⟨?_, by rw [(next_again t rs ds).2]; exact h, ?_⟩
  · rcases next_early t rs ds h with ⟨h1, _, h2⟩ | ⟨d, r, rfl, rfl, h1, h2, h3, h4⟩
    · rw [h1, nextT, if_neg (fun h => h2 h.1)]
    · have hf : decide (d.2 ≤ d.2) = true := by simp
      rw [h2, h3, h4, nextT, if_neg (fun h => by have := h.2; simp [due, List.takeWhile_cons] at this)]
  · rcases next_early t rs ds h with ⟨h1, _, h2⟩ | ⟨d, r, rfl, rfl, h1, h2, h3, h4⟩
    · have := List.length_pos_iff.2 h2
      simp only [List.length_append] at this ⊢
      omega
    · rw [h2, h3, h4]
      simp [due, List.takeWhile_cons]
theorem dcells_at (ds : List (ByteArray × Int)) (i : Nat) (d : ByteArray × Int) (hi : ds[i]? = some d) (o : Nat) (ho : o < 4) : (dcells ds)[i * 4 + o]? = (dcell d)[o]? := by
  induction ds generalizing i with
  | nil => simp at hi
  | cons x xs ih =>
    have e : dcells (x :: xs) = dcell x ++ dcells xs := by simp [dcells]
    rw [e]
    cases i with
    | zero =>
      simp at hi
      subst hi
      rw [Nat.zero_mul, Nat.zero_add, List.getElem?_append_left (by simpa [dcell] using ho)]
    | succ i =>
      rw [List.getElem?_append_right (by simp [dcell]; omega)]
      have := ih i (by simpa using hi)
      rw [← this]
      congr 1
      simp [dcell]
      omega

/-- The queue as the pushes leave it is the queue as next takes it. -/
theorem QP.toI {B : Nat} {w : World} {rs bs : List ByteArray} {ds : List (ByteArray × Int)} (h : QP B w rs ds bs) : ∃ rv dv bv, QI 0 B w rs ds bs rv dv bv := by
  obtain ⟨rv, dv, bv, hq, hr, hd, hb, a1, a2, a3⟩ := h
  refine ⟨rv, dv, bv, hq, hr, ?_, hb, a2⟩
  rcases hd.2 with ⟨rfl, h0⟩ | ⟨g, cap, cur, rfl, hg, hh, hn, hc, hs, htake⟩
  · have : ds = [] := List.eq_nil_of_length_eq_zero h0
    subst this
    exact ⟨none, 0, rfl, Nat.le_refl _, by unfold maxLen; omega, .inl ⟨rfl, rfl, rfl⟩⟩
  · refine ⟨_, cap, rfl, hn, hc, .inr ⟨g, 0, rfl, ⟨by omega, (Array.getElem?_eq_some_iff.1 hh).1, fun i d hi => ?_⟩, fun e => a1 g e rfl⟩⟩
    have hlt := (List.getElem?_eq_some_iff.1 hi).1
    have hcell : ∀ o, o < 4 → w.cell? ⟨g, 0 + i * 4 + o, none⟩ = (dcell d)[o]? := fun o ho => by
      rw [cell_of_row w g _ cur 63 (0, 0) hh, Nat.zero_add]
      have e1 : cur[i * 4 + o]? = (cur.toList.take (ds.length * 4))[i * 4 + o]? := by
        rw [List.getElem?_take_of_lt (by omega)]; simp
      rw [e1, htake]
      exact dcells_at ds i d hi o ho
    exact ⟨hcell 0 (by omega), hcell 1 (by omega), hcell 2 (by omega), hcell 3 (by omega)⟩

theorem own_srow {w : World} {B : Nat} {rv : Value} {rs : List ByteArray} (h : w.ownsRow (B + 1) 9 1 rv rs.length (strs rs)) : SRow w rv rs.length (fun i => rs.getD i ByteArray.empty) := by
  rcases h.2 with ⟨rfl, h0⟩ | ⟨g, cap, cur, rfl, hg, hh, hn, hc, hs, htake⟩
  · exact ⟨none, 0, by rw [h0], by omega, by unfold maxLen; omega, .inl ⟨rfl, h0, rfl⟩⟩
  · refine ⟨_, cap, rfl, hn, hc, .inr ⟨g, 0, rfl, (Array.getElem?_eq_some_iff.1 hh).1, fun i hi => ?_⟩⟩
    rw [cell_of_row w g _ cur 9 (0, 0) hh, Nat.zero_add]
    have e1 : cur[i]? = (cur.toList.take (rs.length * 1))[i]? := by
      rw [List.getElem?_take_of_lt (by omega)]; simp
    rw [e1, htake]
    simp [strs, hi]
end Go.Proofs.Qxb6605917a
