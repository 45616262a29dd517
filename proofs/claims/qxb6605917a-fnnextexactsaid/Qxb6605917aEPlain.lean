import Derived.Test.Qxb6605917aPlain
namespace Go.Proofs.Qxb6605917a
open Go.RowKit
set_option linter.unusedVariables false
set_option linter.unusedSimpArgs false

def cnt (t : Int) (m : Nat) (S : Nat → ByteArray) (D : Nat → Int) : Nat := (due t (lst2 m S D)).length

theorem due_take (t : Int) (ds : List (ByteArray × Int)) : due t ds = ds.take (due t ds).length ∧ later t ds = ds.drop (due t ds).length := by
  have h := due_later t ds
  constructor
  · have h1 : (due t ds ++ later t ds).take (due t ds).length = due t ds := List.take_left
    rw [h] at h1
    exact h1.symm
  · have h1 : (due t ds ++ later t ds).drop (due t ds).length = later t ds := List.drop_left
    rw [h] at h1
    exact h1.symm

theorem due_le {t : Int} {ds : List (ByteArray × Int)} : ∀ d ∈ due t ds, d.2 ≤ t := by
  intro d hd
  have := List.all_takeWhile (p := fun d : ByteArray × Int => decide (d.2 ≤ t)) (l := ds)
  have h2 := List.all_eq_true.1 this d hd
  simpa using h2

theorem cnt_le (t : Int) (m : Nat) (S : Nat → ByteArray) (D : Nat → Int) : cnt t m S D ≤ m := by
  have h := congrArg List.length (due_later t (lst2 m S D))
  rw [List.length_append, lst2_len] at h
  unfold cnt
  omega

theorem lst2_at {m i : Nat} (S : Nat → ByteArray) (D : Nat → Int) (h : i < m) : (lst2 m S D)[i]? = some (S i, D i) := by simp [lst2, h]

theorem mono_of {m : Nat} {D : Nat → Int} (hs : ∀ i, i + 1 < m → D i ≤ D (i + 1)) : ∀ i k, i + k < m → D i ≤ D (i + k) := by
  intro i k
  induction k with
  | zero => intro _; exact Int.le_refl _
  | succ k ih => intro h; exact Int.le_trans (ih (by omega)) (hs (i + k) (by omega))

/-- With the dues in rising order: due are just the first ones. -/
theorem cnt_iff (t : Int) (m : Nat) (S : Nat → ByteArray) (D : Nat → Int) (hs : ∀ i, i + 1 < m → D i ≤ D (i + 1)) (i : Nat) (hi : i < m) : D i ≤ t ↔ i < cnt t m S D := by
  constructor
  · intro h
    by_cases hk : i < cnt t m S D
    · exact hk
    · exfalso
      have hc := cnt_le t m S D
      have hl : later t (lst2 m S D) = (lst2 m S D).drop (cnt t m S D) := (due_take t _).2
      have h0 : (later t (lst2 m S D))[0]? = some (S (cnt t m S D), D (cnt t m S D)) := by
        rw [hl, List.getElem?_drop, Nat.add_zero]
        exact lst2_at S D (by omega)
      cases hx : later t (lst2 m S D) with
      | nil => rw [hx] at h0; simp at h0
      | cons d r =>
        rw [hx] at h0
        simp at h0
        have := later_first hx
        rw [h0] at this
        have h2 := mono_of hs (cnt t m S D) (i - cnt t m S D) (by omega)
        rw [show cnt t m S D + (i - cnt t m S D) = i from by omega] at h2
        simp at this
        omega
  · intro h
    have hd : (due t (lst2 m S D))[i]? = some (S i, D i) := by
      rw [(due_take t (lst2 m S D)).1, List.getElem?_take_of_lt (by exact h)]
      exact lst2_at S D hi
    exact due_le _ (List.mem_of_getElem? hd)

theorem rdy_len (t : Int) (n m : Nat) (S S' : Nat → ByteArray) (D : Nat → Int) : (lst n S ++ (due t (lst2 m S' D)).map (·.1)).length = n + cnt t m S' D := by
  rw [List.length_append, lst_len, List.length_map]; rfl
theorem rdy_low (t : Int) (n m : Nat) (S S' : Nat → ByteArray) (D : Nat → Int) (i : Nat) (h : i < n) : (lst n S ++ (due t (lst2 m S' D)).map (·.1)).getD i ByteArray.empty = S i := by
  rw [List.getD_eq_getElem?_getD, List.getElem?_append_left (by rw [lst_len]; exact h)]
  simp [lst, h]
theorem rdy_high (t : Int) (n m : Nat) (S S' : Nat → ByteArray) (D : Nat → Int) (i : Nat) (h : i < cnt t m S' D) : (lst n S ++ (due t (lst2 m S' D)).map (·.1)).getD (n + i) ByteArray.empty = S' i := by
  rw [List.getD_eq_getElem?_getD, List.getElem?_append_right (by rw [lst_len]; omega), lst_len, Nat.add_sub_cancel_left, List.getElem?_map, (due_take t (lst2 m S' D)).1, List.getElem?_take_of_lt (by exact h), lst2_at S' D (by have := cnt_le t m S' D; omega)]
  rfl
theorem later_len (t : Int) (m : Nat) (S' : Nat → ByteArray) (D : Nat → Int) : (later t (lst2 m S' D)).length = m - cnt t m S' D := by
  rw [(due_take t (lst2 m S' D)).2, List.length_drop, lst2_len]; rfl
theorem later_at (t : Int) (m : Nat) (S' : Nat → ByteArray) (D : Nat → Int) (i : Nat) (h : cnt t m S' D + i < m) : (later t (lst2 m S' D))[i]? = some (S' (cnt t m S' D + i), D (cnt t m S' D + i)) := by
  rw [(due_take t (lst2 m S' D)).2, List.getElem?_drop]
  exact lst2_at S' D h

theorem want_now (t : Int) (n m : Nat) (S S' : Nat → ByteArray) (D : Nat → Int) (h : 0 < n + cnt t m S' D) : nextT t (lst n S) (lst2 m S' D) = t ∧ nextOk (lst n S) (lst2 m S' D) = true := by
  have hne : ¬ (lst n S = [] ∧ due t (lst2 m S' D) = []) := fun ⟨h1, h2⟩ => by
    have e1 := congrArg List.length h1
    have e2 := congrArg List.length h2
    rw [lst_len] at e1
    simp only [List.length_nil] at e1 e2
    unfold cnt at h
    omega
  refine ⟨by rw [nextT, if_neg hne], ?_⟩
  rw [nextOk_len, lst_len, lst2_len]
  have := cnt_le t m S' D
  simp
  omega
theorem want_later (t : Int) (n m : Nat) (S S' : Nat → ByteArray) (D : Nat → Int) (h : n + cnt t m S' D = 0) (hm : 0 < m) : nextT t (lst n S) (lst2 m S' D) = D 0 ∧ nextOk (lst n S) (lst2 m S' D) = true := by
  have h1 : n = 0 := by omega
  have h2 : due t (lst2 m S' D) = [] := List.eq_nil_of_length_eq_zero (by unfold cnt at h; omega)
  have h3 := due_later t (lst2 m S' D)
  rw [h2, List.nil_append] at h3
  subst h1
  refine ⟨?_, by rw [nextOk_len, lst_len, lst2_len]; simp; omega⟩
  rw [nextT, if_pos ⟨rfl, h2⟩, h3]
  have h4 := lst2_at S' D hm
  cases hx : lst2 m S' D with
  | nil => rw [hx] at h4; simp at h4
  | cons d r => rw [hx] at h4; simp at h4; simp [h4]
end Go.Proofs.Qxb6605917a
