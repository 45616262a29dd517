import Derived.Test.Qxb6605919aProg
import Derived.WalkKit
import Derived.WalkSpells
import Derived.WalkLawsBesides
import Derived.Laws.BytesArg
import Derived.Laws.IdiomCopy
import Derived.Lib.SliceRun
import Derived.Deep.OwnRows
namespace Go.Proofs.Qxb6605919a
open Go.RowKit
set_option linter.unusedVariables false
set_option linter.unusedSimpArgs false

/-- A slice of bytes that is read: its n numbers by their index. -/
def BRow (w : World) (v : Value) (n : Nat) (Z : Nat → Int) : Prop :=
  ∃ ao cap, v = .slice ao n cap ∧ n ≤ cap ∧ cap ≤ maxLen ∧ ((ao = none ∧ n = 0 ∧ cap = 0) ∨ ∃ b off, ao = some ⟨b, off, none⟩ ∧ b < w.heap.size ∧ ∀ i, i < n → w.cell? ⟨b, off + i, none⟩ = some (.int .u8 (Z i)))
def Byte (n : Nat) (Z : Nat → Int) : Prop := ∀ i, i < n → 0 ≤ Z i ∧ Z i ≤ 255

def IsBool (e : Ending) : Prop := ∃ b, e = .returned (.bool b)
theorem isBool_mk (b : Bool) : IsBool (.returned (.bool b)) := ⟨b, rfl⟩
theorem ret_bool {a b : Bool} (h : a = b) : Ending.returned (.bool a) = .returned (.bool b) := by rw [h]
theorem ret_int {k : IntKind} {a b : Int} (h : a = b) : Ending.returned (.int k a) = .returned (.int k b) := by rw [h]

def nums (n : Nat) (Z : Nat → Int) : List Int := (List.range n).map Z
theorem nums_len (n : Nat) (Z : Nat → Int) : (nums n Z).length = n := by simp [nums]
theorem nums_at (n : Nat) (Z : Nat → Int) (i : Nat) (h : i < n) : (nums n Z).getD i 0 = Z i := by simp [nums, h]

/-- Two rows of bytes are the same. -/
def eqB (n : Nat) (Y : Nat → Int) (m : Nat) (Z : Nat → Int) : Bool := decide (n = m ∧ ∀ i, i < n → Y i = Z i)

theorem ofNat_inj {a b : Int} (a0 : 0 ≤ a) (a1 : a ≤ 255) (b0 : 0 ≤ b) (b1 : b ≤ 255) (h : UInt8.ofNat a.toNat = UInt8.ofNat b.toNat) : a = b := by
  have h1 := congrArg UInt8.toNat h
  simp only [UInt8.toNat_ofNat'] at h1
  omega

theorem str_eq (n : Nat) (Y : Nat → Int) (m : Nat) (Z : Nat → Int) (hY : Byte n Y) (hZ : Byte m Z) : ((strOfNums (nums n Y)).toList == (strOfNums (nums m Z)).toList) = eqB n Y m Z := by
  unfold eqB
  rw [Bool.eq_iff_iff, beq_iff_eq, decide_eq_true_iff]
  have e : ∀ xs, (strOfNums xs).toList = xs.map fun n => UInt8.ofNat n.toNat := fun xs => by
    rw [ByteArray.toList_eq]; exact strOfNums_data xs
  rw [e, e]
  simp only [nums, List.map_map]
  constructor
  · intro h
    have hl := congrArg List.length h
    simp at hl
    subst hl
    refine ⟨rfl, fun i hi => ?_⟩
    have h1 := congrArg (fun l => l[i]?) h
    simp [hi] at h1
    exact ofNat_inj (hY i hi).1 (hY i hi).2 (hZ i hi).1 (hZ i hi).2 h1
  · rintro ⟨rfl, h⟩
    refine List.map_congr_left fun i hi => ?_
    simp [h i (by simpa using hi)]

theorem convert_row {w : World} {v : Value} {n : Nat} {Z : Nat → Int} (h : BRow w v n Z) : (convert 22 9 v).run Try.prog w = .ok (.string (strOfNums (nums n Z))) w := by
  obtain ⟨ao, cap, rfl, h1, h2, h3⟩ := h
  rcases h3 with ⟨rfl, rfl, rfl⟩ | ⟨b, off, rfl, hb, hc⟩
  · rw [run_convert_bytes_nil w 22 5 Try.underlying22 Try.underlying5 0 0 9 Try.underlying9]
    rfl
  · exact run_convert_bytes_arg w 22 5 Try.underlying22 Try.underlying5 b off n cap (nums n Z) (nums_len n Z) (fun i hi => by rw [nums_at n Z i hi]; exact hc i hi) 9 Try.underlying9

set_option maxHeartbeats 400000 in
theorem equal_any (a b : Value) (n m : Nat) (Y Z : Nat → Int) (w : World) (ha : BRow w a n Y) (hb : BRow w b m Z) (hY : Byte n Y) (hZ : Byte m Z) :
    Calls Try.prog 9 #[a, b] w fun e w' => e = .returned (.bool (eqB n Y m Z)) ∧ w' = w := by
  have k1 := convert_row ha
  have k2 := convert_row hb
  have k3 := str_eq n Y m Z hY hZ
  obtain ⟨x, hx⟩ : ∃ x, strOfNums (nums n Y) = x := ⟨_, rfl⟩
  obtain ⟨y, hy⟩ : ∃ y, strOfNums (nums m Z) = y := ⟨_, rfl⟩
  rw [hx] at k1 k3
  rw [hy] at k2 k3
  have K3 : Hid ((x.toList == y.toList) = eqB n Y m Z) := k3
  clear ha hb hY hZ hx hy k3
  go_enter Try.func9, Try.ntmps9
  go_wp2
  go_ret
  exact ⟨ret_bool K3.out, rfl⟩

/-- The tail and the head of a row. -/
theorem BRow.drop {w : World} {ao : Option Addr} {n cap : Nat} {Z : Nat → Int} (h : BRow w (.slice ao n cap) n Z) (k : Nat) (hk : k ≤ n) {bo : Option Addr} (hb : ∀ b off, ao = some ⟨b, off, none⟩ → (k < cap ∧ bo = some ⟨b, off + k, none⟩) ∨ (k = cap ∧ bo = some ⟨b, off, none⟩)) (hb0 : ao = none → bo = none) :
    BRow w (.slice bo (n - k) (cap - k)) (n - k) (fun i => Z (k + i)) := by
  obtain ⟨ao', cap', hv, h1, h2, h3⟩ := h
  simp only [Value.slice.injEq] at hv
  obtain ⟨rfl, _, rfl⟩ := hv
  refine ⟨bo, cap - k, rfl, by omega, by omega, ?_⟩
  rcases h3 with ⟨h0, h3, h4⟩ | ⟨b, off, rfl, hlt, hc⟩
  · exact .inl ⟨hb0 h0, by omega, by omega⟩
  · right
    rcases hb b off rfl with ⟨_, rfl⟩ | ⟨hk', rfl⟩
    · exact ⟨b, off + k, rfl, hlt, fun i hi => by rw [Nat.add_assoc]; exact hc (k + i) (by omega)⟩
    · exact ⟨b, off, rfl, hlt, fun i hi => by omega⟩
theorem BRow.take {w : World} {ao : Option Addr} {n cap : Nat} {Z : Nat → Int} (h : BRow w (.slice ao n cap) n Z) (k : Nat) (hk : k ≤ n) : BRow w (.slice ao k cap) k Z := by
  obtain ⟨ao', cap', hv, h1, h2, h3⟩ := h
  simp only [Value.slice.injEq] at hv
  obtain ⟨rfl, _, rfl⟩ := hv
  refine ⟨ao, cap, rfl, by omega, h2, ?_⟩
  rcases h3 with ⟨h0, h3, h4⟩ | ⟨b, off, rfl, hlt, hc⟩
  · exact .inl ⟨h0, by omega, h4⟩
  · exact .inr ⟨b, off, rfl, hlt, fun i hi => hc i (by omega)⟩

def sufB (n : Nat) (Y : Nat → Int) (m : Nat) (Z : Nat → Int) : Bool := decide (m ≤ n ∧ ∀ i, i < m → Y (n - m + i) = Z i)
theorem suf_eq (n : Nat) (Y : Nat → Int) (m : Nat) (Z : Nat → Int) (h : m ≤ n) : eqB (n - (n - m)) (fun i => Y (n - m + i)) m Z = sufB n Y m Z := by
  unfold eqB sufB
  rw [decide_eq_decide]
  constructor
  · rintro ⟨h1, h2⟩
    exact ⟨h, fun i hi => h2 i (by omega)⟩
  · rintro ⟨h1, h2⟩
    exact ⟨by omega, fun i hi => h2 i (by omega)⟩

set_option maxHeartbeats 400000 in
theorem hasSuffix_any (a b : Value) (n m : Nat) (Y Z : Nat → Int) (w : World) (ha : BRow w a n Y) (hb : BRow w b m Z) (hY : Byte n Y) (hZ : Byte m Z) :
    Calls Try.prog 8 #[a, b] w fun e w' => e = .returned (.bool (sufB n Y m Z)) ∧ w' = w := by
  obtain ⟨ao, ca, rfl, a1, a2, a3⟩ := id ha
  obtain ⟨bo, cb, rfl, b1, b2, b3⟩ := id hb
  unfold maxLen at a2 b2
  by_cases hm : m ≤ n
  · have hmd : decide ((m : Int) ≤ (n : Int)) = true := by simp; omega
    obtain ⟨k, hk⟩ : ∃ k, n - m = k := ⟨_, rfl⟩
    have hki : (n : Int) - (m : Int) = (k : Int) := by omega
    have hkn : k ≤ n := by omega
    have hE := suf_eq n Y m Z hm
    rw [hk] at hE
    have HE : Hid (eqB (n - k) (fun i => Y (k + i)) m Z = sufB n Y m Z) := hE
    have HB : Byte (n - k) (fun i => Y (k + i)) := fun i hi => hY (k + i) (by omega)
    clear hE hk
    rcases a3 with ⟨rfl, h0, h00⟩ | ⟨x, off, rfl, hx, hc⟩
    · have hk0 : k = 0 := by omega
      subst hk0
      subst h0
      subst h00
      have HE2 : Hid (eqB 0 Y m Z = sufB 0 Y m Z) := by
        have := HE.out
        simp only [Nat.sub_zero, Nat.zero_add] at this
        exact this
      clear HE HB hki
      have hm0 : m = 0 := by omega
      subst hm0
      go_enter Try.func8, Try.ntmps8
      go_wp2_with fail
      refine (equal_any _ _ 0 0 Y Z _ ha hb hY hZ).mono ?_
      rintro e w' ⟨rfl, rfl⟩
      go_wp2
      go_ret
      exact ⟨ret_bool HE2.out, rfl⟩
    · by_cases hkc : k = ca
      · have hd : BRow w (.slice (some ⟨x, off, none⟩) (n - k) (ca - k)) (n - k) (fun i => Y (k + i)) := ha.drop k hkn (fun b o h => by simp only [Option.some.injEq, Addr.mk.injEq] at h; obtain ⟨rfl, rfl, _⟩ := h; exact .inr ⟨hkc, rfl⟩) (fun h => by cases h)
        have e1 : n - k = 0 := by omega
        have e2 : ca - k = 0 := by omega
        have HE2 : Hid (eqB 0 (fun i => Y (k + i)) m Z = sufB n Y m Z) := by have := HE.out; rw [e1] at this; exact this
        rw [e1, e2] at hd
        rw [e1] at HB
        clear ha hc HE e1 e2
        subst hkc
        go_enter Try.func8, Try.ntmps8
        go_wp2_with fail
        refine (equal_any _ _ _ _ _ _ _ hd hb HB hZ).mono ?_
        rintro e w' ⟨rfl, rfl⟩
        go_wp2
        go_ret
        exact ⟨ret_bool HE2.out, rfl⟩
      · have hd : BRow w (.slice (some ⟨x, off + k, none⟩) (n - k) (ca - k)) (n - k) (fun i => Y (k + i)) := ha.drop k hkn (fun b o h => by simp only [Option.some.injEq, Addr.mk.injEq] at h; obtain ⟨rfl, rfl, _⟩ := h; exact .inl ⟨by omega, rfl⟩) (fun h => by cases h)
        clear ha hc
        go_enter Try.func8, Try.ntmps8
        go_wp2_with fail
        refine (equal_any _ _ _ _ _ _ _ hd hb HB hZ).mono ?_
        rintro e w' ⟨rfl, rfl⟩
        go_wp2
        go_ret
        exact ⟨ret_bool HE.out, rfl⟩
  · have hmd : decide ((m : Int) ≤ (n : Int)) = false := by simp; omega
    have hE : sufB n Y m Z = false := by unfold sufB; simp; omega
    have HE : Hid (sufB n Y m Z = false) := hE
    clear hE
    go_enter Try.func8, Try.ntmps8
    go_wp2
    go_ret
    exact ⟨ret_bool HE.out.symm, rfl⟩
/-- What partialMarker answers: the length of the longest end of the first row that begins the second one without being all of it. -/
def PM (n : Nat) (Y : Nat → Int) (m : Nat) (Z : Nat → Int) (r : Nat) : Prop :=
  r ≤ n ∧ (r < m ∨ r = 0) ∧ (r = 0 ∨ sufB n Y r Z = true) ∧ ∀ k, r < k → k ≤ n → k < m → sufB n Y k Z = false

def IsPM (n : Nat) (Y : Nat → Int) (m : Nat) (Z : Nat → Int) (e : Ending) : Prop := ∃ r : Nat, e = .returned (.int .i64 r) ∧ PM n Y m Z r

set_option maxHeartbeats 400000 in
theorem partialMarker_any (a b : Value) (n m : Nat) (Y Z : Nat → Int) (w : World) (ha : BRow w a n Y) (hb : BRow w b m Z) (hY : Byte n Y) (hZ : Byte m Z) :
    Calls Try.prog 7 #[a, b] w fun e w' => IsPM n Y m Z e ∧ w' = w := by
  obtain ⟨ao, ca, rfl, a1, a2, a3⟩ := id ha
  obtain ⟨bo, cb, rfl, b1, b2, b3⟩ := id hb
  unfold maxLen at a2 b2
  clear a3 b3
  rcases m with _ | m
  · go_enter Try.func7, Try.ntmps7
    go_wp2
    refine wp_loop_rounds 1 ?_
    rw [rounds_succ]
    go_wp2
    go_ret
    exact ⟨⟨0, rfl, by omega, .inr rfl, .inl rfl, fun k _ _ h => by omega⟩, rfl⟩
  · by_cases hnm : (n : Int) ≤ (m : Int)
    all_goals
      go_enter Try.func7, Try.ntmps7
      go_wp2
      go_loop [5] (fun s => ∃ k : Nat, k ≤ n ∧ k ≤ m ∧ s = .int .i64 k ∧ Hid (∀ j, k < j → j ≤ n → j < m + 1 → sufB n Y j Z = false)) (fun s => (intOf s).toNat)
      case atStart => first | exact ⟨n, by omega, by omega, by go_num, fun j h1 h2 h3 => by omega⟩ | exact ⟨m, by omega, by omega, by go_num, fun j h1 h2 h3 => by omega⟩
      case round =>
        obtain ⟨k, hkn, hkm, rfl, HK⟩ := hrel
        by_cases hk0 : 0 < k
        · obtain ⟨bs, hbs⟩ : ∃ bs, sufB n Y k Z = bs := ⟨_, rfl⟩
          have hsuf := hasSuffix_any _ _ n k Y Z w ha (hb.take k (by omega)) hY (fun i hi => hZ i (by omega))
          rw [hbs] at hsuf
          have HS := (show Hid _ from hsuf)
          have HB : Hid (sufB n Y k Z = bs) := hbs
          clear hsuf hbs
          go_wp2_with fail
          refine Calls.mono HS.out ?_
          rintro e w' ⟨rfl, hw'⟩; obtain rfl := hw'.symm
          clear HS
          cases bs
          · go_wp2
            go_round
            case rel => exact ⟨k - 1, by omega, by omega, by first | go_num | (congr 1; omega), fun j h1 h2 h3 => (by by_cases e : j = k; (rw [e]; exact HB.out); exact HK.out j (by omega) h2 h3)⟩
            case measure => simp [intOf]; omega
          · go_wp2
            go_ret
            exact ⟨⟨k, rfl, hkn, .inl (by omega), .inr HB.out, HK.out⟩, rfl⟩
        · have hk : k = 0 := by omega
          subst hk
          go_wp2
          go_ret
          exact ⟨⟨0, rfl, by omega, .inr rfl, .inl rfl, HK.out⟩, rfl⟩

end Go.Proofs.Qxb6605919a
